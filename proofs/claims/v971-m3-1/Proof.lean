import JvmDerived
import JvmDerived.Pilot.@@N@@Statement
import JvmDerived.Pilot.@@N@@Code
set_option linter.unusedVariables false
set_option linter.unusedSimpArgs false
namespace Jvm.RoadKit
open Sem ClassFile Op Lib Jvm.Stand Jvm.Free Jvm.LawKit
section New
variable {p : Program} {l : Launch} {e : Env} {R : Room} {s : State} {m : MethodId} {args : Array Value} {below : List Frame} {meth : Method} {c : Code} {T : State} {locs : List Loc} {cells slots : Nat}
theorem retI (X : Stand p l e R s m args below meth c T locs cells slots) (hx : p.tables.exec = Jvm.exec) {pc : Nat} {Ls : Array Slot} {z : Int32} {rest : List Value} (hret : meth.sig.returnType = some .int) (hd : decode c.code pc = .ok (.ireturn, 1)) {fs : List Frame}
    (hl : ∀ (f : JFrame) (acts : List Action), f.method = m → f.locked = none → f.entered = [] → (doReturn e (T.setTop f) acts (some (.int z))).1 = T.setFrames fs) : Steps p.tables e below (T.setTop (mkF m pc Ls (.int z :: rest))) (T.setFrames fs) := by
  have hm' : T.vm.method? m = some meth := X.method'
  have hn : narrow .int (.int z) = .int z := rfl
  show Steps p.tables e below (T.setTop { method := m, pc := pc, locals := Ls, stack := _ :: rest, locked := none }) _
  jvm_step X.here [X.here.top, hx, hd, hm', hret, hn]
  first | (intro acts; rw [hl _ acts rfl rfl rfl]) | rw [hl _ _ rfl rfl rfl]
  exact Steps.refl _
end New
end Jvm.RoadKit
namespace Jvm.Pilot.@@N@@
open Jvm Jvm.ClassFile Sem Op Lib Jvm.Free Jvm.Stand Jvm.LawKit Jvm.RoadKit Bundle Jvm.Pilot.@@N@@.Jvm.D
section Own
variable {p : Program} {l : Launch} {e : Env} {R : Room} {s : State} {m : MethodId} {args : Array Value} {below : List Frame} {meth : Method} {c : Code} {T : State} {locs : List Loc} {k j : Nat} {Z : State} {a0 : Array Value} {h : Heap}
/-- the run that stands at g goes on to an end as Q says -/
def own_E (p : Program) (e : Env) (below : List Frame) (Q : Outcome → State → Prop) (T : State) (g : JFrame) : Prop :=
  ∃ s₂ o, Steps p.tables e below (T.setTop g) s₂ ∧ s₂.status = .running ∧ Ended s₂ below o ∧ Q o s₂
/-- an end as a contract's Qr says, with so many cells and slots at the most -/
def own_Q (s : State) (Qr : Option Value → Heap → List Loc → Prop) (k j : Nat) (o : Outcome) (U : State) : Prop := ∃ v L, o = .returned v ∧ Qr v U.heap L ∧ FrameEnd s o U L k j
/-- a contract of a method at these arguments and this heap -/
def own_M (l : Launch) (Z : State) (y : MethodName) (bytes : ByteArray) (maxL : Nat) (ret : Option FieldType) (rm : Room) (as' : Array Value) (h : Heap) (Qr : Option Value → Heap → List Loc → Prop) : Prop :=
  ∀ ws : List Jvm.Cond, MetFree l y (head1 (Jvm.Cond.code y bytes maxL ret :: ws) rm) (fun a U => a = as' ∧ Z.Warmed39 U.vm ∧ U.heap = h) (fun _ _ _ _ _ => True) (fun _ U o U' => ∃ v L, o = .returned v ∧ Qr v U'.heap L ∧ FrameEnd U o U' L rm.cells rm.slots)
theorem own_st {Q : Outcome → State → Prop} {T' : State} {g g' : JFrame} (hs : ∀ t, Steps p.tables e below (T'.setTop g') t → Steps p.tables e below (T.setTop g) t) (k : own_E p e below Q T' g') : own_E p e below Q T g := by
  obtain ⟨s₂, o, h1, h2, h3, h4⟩ := k
  exact ⟨s₂, o, hs _ h1, h2, h3, h4⟩
theorem own_sy {Q : Outcome → State → Prop} {T' : State} {g g' : JFrame} (hs : Steps p.tables e below (T.setTop g) (T'.setTop g')) (k : own_E p e below Q T' g') : own_E p e below Q T g := by
  obtain ⟨s₂, o, h1, h2, h3, h4⟩ := k
  exact ⟨s₂, o, hs.trans h1, h2, h3, h4⟩
theorem own_body {y : MethodName} {bytes : ByteArray} {maxL : Nat} {ret : Option FieldType} {rm : Room} {as' : Array Value} {Qr : Option Value → Heap → List Loc → Prop} (hp : plainName y.cls = true)
    (body : ∀ (p : Program) (e : Env) (s : State) (m : MethodId) (below : List Frame) (meth : Method) (c : Code) (T : State), p.tables.exec = Jvm.exec → c.code = bytes → c.maxLocals = maxL → s.vm.findClass y.cls = some m.cls → Z.Warmed39 s.vm → meth.sig.returnType = ret → meth.locks = false → meth.name = y.name →
      Stand p l e rm s m as' below meth c T [] 0 0 → T.heap = h → own_E p e below (own_Q s Qr rm.cells rm.slots) T (entryFrame m as' maxL)) : own_M l Z y bytes maxL ret rm as' h Qr := by
  intro ws
  refine MetFree.of_bodySF (plainFor_of_name hp) hisR ?_
  intro p e s m args below meth c s₁ Bd hml0 hP hK
  obtain ⟨rfl, hZ, hh⟩ := hP
  exact body p e s m below meth c s₁ Bd.exec Bd.bytes hml0 (findClass_of_methodNamed Bd.named) hZ Bd.returns Bd.notSynchronized (name_of_methodNamed Bd.named Bd.method).1 (Stand.of_body Bd) (by rw [← hh, Bd.state]; rfl)
theorem own_retN {Qr : Option Value → Heap → List Loc → Prop} {kk jj pc : Nat} {Ls : Array Slot} {z : Int32} {t : FieldType} {rest : List Value} (X : Stand p l e R s m args below meth c T locs k j) (hx : p.tables.exec = Jvm.exec) (hlk : meth.locks = false) (hret : meth.sig.returnType = some t) (ht : t = .boolean ∨ t = .byte ∨ t = .char ∨ t = .short)
    (hd : decode c.code pc = .ok (.ireturn, 1)) (hk : k ≤ kk) (hj : j ≤ jj) (hq : Qr (some (.int (nar t z))) T.heap locs) : own_E p e below (own_Q s Qr kk jj) T (mkF m pc Ls (.int z :: rest)) := by
  obtain ⟨fs, hr, hrun, hended, hW, hsame⟩ := X.leave (v := some (.int (nar t z))) (fun q => by rw [hret] at q; cases q) hlk
  exact ⟨_, _, retN X hx hret ht hd hr, hrun, hended, _, _, rfl, hq, ⟨_, rfl⟩, hW, hsame.mono hk hj⟩
theorem own_retI {Qr : Option Value → Heap → List Loc → Prop} {kk jj pc : Nat} {Ls : Array Slot} {z : Int32} {rest : List Value} (X : Stand p l e R s m args below meth c T locs k j) (hx : p.tables.exec = Jvm.exec) (hlk : meth.locks = false) (hret : meth.sig.returnType = some .int)
    (hd : decode c.code pc = .ok (.ireturn, 1)) (hk : k ≤ kk) (hj : j ≤ jj) (hq : Qr (some (.int z)) T.heap locs) : own_E p e below (own_Q s Qr kk jj) T (mkF m pc Ls (.int z :: rest)) := by
  obtain ⟨fs, hr, hrun, hended, hW, hsame⟩ := X.leave (v := some (.int z)) (fun q => by rw [hret] at q; cases q) hlk
  exact ⟨_, _, retI X hx hret hd hr, hrun, hended, _, _, rfl, hq, ⟨_, rfl⟩, hW, hsame.mono hk hj⟩
theorem own_retJ {Qr : Option Value → Heap → List Loc → Prop} {kk jj pc : Nat} {Ls : Array Slot} {z : Int64} (X : Stand p l e R s m args below meth c T locs k j) (hx : p.tables.exec = Jvm.exec) (hlk : meth.locks = false) (hret : meth.sig.returnType = some .long)
    (hd : decode c.code pc = .ok (.lreturn, 1)) (hk : k ≤ kk) (hj : j ≤ jj) (hq : Qr (some (.long z)) T.heap locs) : own_E p e below (own_Q s Qr kk jj) T (mkF m pc Ls [.long z]) := by
  obtain ⟨fs, hr, hrun, hended, hW, hsame⟩ := X.leave (v := some (.long z)) (fun q => by rw [hret] at q; cases q) hlk
  exact ⟨_, _, X.lreturnOut hx hret hd hr, hrun, hended, _, _, rfl, hq, ⟨_, rfl⟩, hW, hsame.mono hk hj⟩
theorem own_retV {Qr : Option Value → Heap → List Loc → Prop} {kk jj pc : Nat} {Ls : Array Slot} (X : Stand p l e R s m args below meth c T locs k j) (hx : p.tables.exec = Jvm.exec) (hlk : meth.locks = false) (hret : meth.sig.returnType = none)
    (hd : decode c.code pc = .ok (.return_, 1)) (hk : k ≤ kk) (hj : j ≤ jj) (hq : Qr none T.heap locs) : own_E p e below (own_Q s Qr kk jj) T (mkF m pc Ls []) := by
  obtain ⟨fs, hr, hrun, hended, hW, hsame⟩ := X.leave (v := none) (fun _ => rfl) hlk
  exact ⟨_, _, X.returnOut hx hret hd hr, hrun, hended, _, _, rfl, hq, ⟨_, rfl⟩, hW, hsame.mono hk hj⟩
theorem own_retA {Qr : Option Value → Heap → List Loc → Prop} {kk jj pc : Nat} {Ls : Array Slot} {z : Value} {t : FieldType} {rest : List Value} (X : Stand p l e R s m args below meth c T locs k j) (hx : p.tables.exec = Jvm.exec) (hlk : meth.locks = false) (hret : meth.sig.returnType = some t) (ht : t.isReference = true) (hz : z.isRef = true) (hn : narrow t z = z)
    (hd : decode c.code pc = .ok (.areturn, 1)) (hk : k ≤ kk) (hj : j ≤ jj) (hq : Qr (some z) T.heap locs) : own_E p e below (own_Q s Qr kk jj) T (mkF m pc Ls (z :: rest)) := by
  obtain ⟨fs, hr, hrun, hended, hW, hsame⟩ := X.leave (v := some z) (fun q => by rw [hret] at q; cases q) hlk
  exact ⟨_, _, retOut X hx hret hn (Or.inr (Or.inr (Or.inr (Or.inr ⟨rfl, ht, hz⟩)))) hd hr, hrun, hended, _, _, rfl, hq, ⟨_, rfl⟩, hW, hsame.mono hk hj⟩
theorem own_callS {own : String} {index : Nat} {y : MethodName} {bytes : ByteArray} {maxL W : Nat} {ret : Option FieldType} {rm : Room} {Qr : Option Value → Heap → List Loc → Prop} {Q : Outcome → State → Prop} {g : JFrame} {argsL rest : List Value}
    (X : Stand p l e R s m args below meth c T locs k j) (hx : p.tables.exec = Jvm.exec) (hZ : Z.Warmed39 s.vm) (hown : s.vm.findClass own = some m.cls) (wl : (Cond.methodLink own index y).before a0 Z = true) (wst : (Cond.static y).before a0 Z = true) (wi : (Cond.initialized y.cls).before a0 Z = true) (wc : (Cond.code y bytes maxL ret).before a0 Z = true)
    (hy : y.cls ≠ "java/lang/invoke/MethodHandle" ∧ y.cls ≠ "java/lang/invoke/VarHandle") (hM : own_M l Z y bytes maxL ret rm argsL.toArray T.heap Qr) (hf : rm.frames + 1 ≤ R.frames) (hl : W + (maxL + 11) + rm.locals ≤ R.locals) (hck : k + rm.cells ≤ R.cells) (hcj : j + rm.slots ≤ R.slots)
    (hg : g.method = m) (hsize : g.locals.size = c.maxLocals) (hlen : ∀ sig, parseMethodDescriptor y.desc = some sig → argsL.length = sig.parameters.length) (hstack : g.stack = argsL.reverse ++ rest) (hW : 2 * g.monitorRoom + (rest.map fun v => v.category).sum ≤ W) (hdg : decode c.code g.pc = .ok (.invokestatic index, 3))
    (K : ∀ (T' : State) (L : List Loc) (v : Option Value), Stand p l e R s m args below meth c T' (locs ++ L) (k + rm.cells) (j + rm.slots) → Qr v T'.heap L → own_E p e below Q T' { g with pc := g.pc + 3, stack := v.toList ++ rest }) : own_E p e below Q T g := by
  obtain ⟨v, vm1, ⟨T', L', k', j'⟩, -, X', ⟨Lc, hQ, l', y', z'⟩, st⟩ := Jvm.LawKit.callS X hx (y := y) hown (mvT hZ wl) (mvT hZ wst) (mvT hZ wi) (mvT hZ wc) hy (backOf (W := W) (hM []) hZ wc wi hf hl) hg hsize hlen hstack hW hdg (fun _ _ => ⟨rfl, rfl, hck, hcj⟩)
  dsimp only [Pt.U, Pt.locs, Pt.cells, Pt.slots] at X' l' y' z' st hQ
  subst l' y' z'
  exact own_st st (K _ _ _ X' hQ)
theorem own_tr {P : Heap → Prop} {h h' : Heap} (q : h' = h) (i : P h) : P h' := q ▸ i
theorem own_pop2L {tb : Tables} [Ours tb] {target : State} {g : JFrame} (h : At T m c below) (hx : tb.exec = Jvm.exec) (hg : g.method = m) {x : Int64} {rest : List Value} (hd : decode c.code g.pc = .ok (.pop2, 1)) (hs : g.stack = .long x :: rest)
    (hr : Steps tb e below (T.setTop { g with pc := g.pc + 1, stack := rest }) target) : Steps tb e below (T.setTop g) target := by
  subst hg
  jvm_step h [h.top, hx, hd, hs]
  exact hr
theorem own_callC {own : String} {index : Nat} {y : MethodName} {bytes : ByteArray} {maxL W : Nat} {rm : Room} {Qr : Option Value → Heap → List Loc → Prop} {Q : Outcome → State → Prop} {g : JFrame} {a : Addr} {argsL rest : List Value}
    (X : Stand p l e R s m args below meth c T locs k j) (hx : p.tables.exec = Jvm.exec) (hZ : Z.Warmed39 s.vm) (hy1 : y.name = "<init>") (hown : s.vm.findClass own = some m.cls) (wl : (Cond.methodLink own index y).before a0 Z = true) (wm : (Cond.instanceMethod y).before a0 Z = true) (wi : (Cond.initialized y.cls).before a0 Z = true) (wc : (Cond.code y bytes maxL none).before a0 Z = true)
    (hy : y.cls ≠ "java/lang/invoke/MethodHandle" ∧ y.cls ≠ "java/lang/invoke/VarHandle") (hM : own_M l Z y bytes maxL none rm (.ref a :: argsL).toArray T.heap Qr) (hf : rm.frames + 1 ≤ R.frames) (hl : W + (maxL + 11) + rm.locals ≤ R.locals) (hck : k + rm.cells ≤ R.cells) (hcj : j + rm.slots ≤ R.slots)
    (hg : g.method = m) (hsize : g.locals.size = c.maxLocals) (hlen : ∀ sig, parseMethodDescriptor y.desc = some sig → argsL.length = sig.parameters.length) (hstack : g.stack = argsL.reverse ++ .ref a :: rest) (hW : 2 * g.monitorRoom + (rest.map fun v => v.category).sum ≤ W) (hdg : decode c.code g.pc = .ok (.invokespecial index, 3))
    (K : ∀ (T' : State) (L : List Loc) (v : Option Value), Stand p l e R s m args below meth c T' (locs ++ L) (k + rm.cells) (j + rm.slots) → Qr v T'.heap L → own_E p e below Q T' { g with pc := g.pc + 3, stack := v.toList ++ rest }) : own_E p e below Q T g := by
  obtain ⟨v, vm1, ⟨T', L', k', j'⟩, -, X', ⟨Lc, hQ, l', y', z'⟩, st⟩ := X.specialBack hx (y := y) hy1 hown (mvT hZ wl) (mvT hZ wm) (mvT hZ wc) hy (backOf (W := W) (hM []) hZ wc wi hf hl) hg hsize (Steps.refl _) (a := a) hlen hstack hW hdg (fun _ _ => ⟨rfl, rfl, hck, hcj⟩)
  dsimp only [Pt.U, Pt.locs, Pt.cells, Pt.slots] at X' l' y' z' st hQ
  subst l' y' z'
  exact own_sy st (K _ _ _ X' hQ)
theorem own_callV {own : String} {index : Nat} {y : MethodName} {bytes : ByteArray} {maxL W : Nat} {ret : Option FieldType} {rm : Room} {Qr : Option Value → Heap → List Loc → Prop} {Q : Outcome → State → Prop} {g : JFrame} {a : Addr} {argsL rest : List Value}
    (X : Stand p l e R s m args below meth c T locs k j) (hx : p.tables.exec = Jvm.exec) (hZ : Z.Warmed39 s.vm) (hown : s.vm.findClass own = some m.cls) (wl : (Cond.methodLink own index y).before a0 Z = true) (wd : (Cond.declares y).before a0 Z = true) (wsel : (Cond.selects y.cls y y).before a0 Z = true) (wm : (Cond.instanceMethod y).before a0 Z = true) (wi : (Cond.initialized y.cls).before a0 Z = true) (wc : (Cond.code y bytes maxL ret).before a0 Z = true)
    (hy : y.cls ≠ "java/lang/invoke/MethodHandle" ∧ y.cls ≠ "java/lang/invoke/VarHandle") (E : Exa Z T.heap a y.cls) (hM : own_M l Z y bytes maxL ret rm (.ref a :: argsL).toArray T.heap Qr) (hf : rm.frames + 1 ≤ R.frames) (hl : W + (maxL + 11) + rm.locals ≤ R.locals) (hck : k + rm.cells ≤ R.cells) (hcj : j + rm.slots ≤ R.slots)
    (hg : g.method = m) (hsize : g.locals.size = c.maxLocals) (hlen : ∀ sig, parseMethodDescriptor y.desc = some sig → argsL.length = sig.parameters.length) (hstack : g.stack = argsL.reverse ++ .ref a :: rest) (hW : 2 * g.monitorRoom + (rest.map fun v => v.category).sum ≤ W) (hdg : decode c.code g.pc = .ok (.invokevirtual index, 3))
    (K : ∀ (T' : State) (L : List Loc) (v : Option Value), Stand p l e R s m args below meth c T' (locs ++ L) (k + rm.cells) (j + rm.slots) → Qr v T'.heap L → own_E p e below Q T' { g with pc := g.pc + 3, stack := v.toList ++ rest }) : own_E p e below Q T g := by
  obtain ⟨cB, kB, qa, qb, qc⟩ := isOf (T := T) hZ rfl E
  obtain ⟨v, vm1, ⟨T', L', k', j'⟩, -, X', ⟨Lc, hQ, l', y', z'⟩, st⟩ := X.virtualBack hx (y := y) (z := y) hown (mvT hZ wl) (mvT hZ wd) (notFace_of_selects (args := #[]) (mvT hZ wsel)) (mvT hZ wsel) (mvT hZ wm) hy (backOf (W := W) (hM []) hZ wc wi hf hl) qa qc hg hsize (Steps.refl _) hlen hstack hW hdg (fun _ _ => ⟨rfl, rfl, hck, hcj⟩)
  dsimp only [Pt.U, Pt.locs, Pt.cells, Pt.slots] at X' l' y' z' st hQ
  subst l' y' z'
  exact own_sy st (K _ _ _ X' hQ)
theorem own_sel {y z : MethodName} (h : (Cond.selects z.cls z z).before args s = true) (hc : y.cls = z.cls) (hpriv : s.PrivateAt y) (hinst : (Cond.instanceMethod y).before args s = true) (hy : y.cls ≠ "java/lang/invoke/MethodHandle" ∧ y.cls ≠ "java/lang/invoke/VarHandle") : (Cond.selects y.cls y y).before args s = true := by
  obtain ⟨c2, r2, m2, -, -, q3, -, kP, hkP, hkPi⟩ := Cond.selects_spec h
  exact Stand.selects_self_of_private (by rw [hc]; exact findClass_of_methodNamed q3) hkP hkPi hpriv hinst hy
theorem own_callP {own : String} {index : Nat} {y z : MethodName} {bytes : ByteArray} {maxL W : Nat} {ret : Option FieldType} {rm : Room} {Qr : Option Value → Heap → List Loc → Prop} {Q : Outcome → State → Prop} {g : JFrame} {a : Addr} {argsL rest : List Value}
    (X : Stand p l e R s m args below meth c T locs k j) (hx : p.tables.exec = Jvm.exec) (hZ : Z.Warmed39 s.vm) (hown : s.vm.findClass own = some m.cls) (wl : (Cond.methodLink own index y).before a0 Z = true) (wsel : (Cond.selects z.cls z z).before a0 Z = true) (hc : y.cls = z.cls) (wp : (Cond.privateMethod y).before a0 Z = true) (wm : (Cond.instanceMethod y).before a0 Z = true) (wi : (Cond.initialized y.cls).before a0 Z = true) (wc : (Cond.code y bytes maxL ret).before a0 Z = true)
    (hy : y.cls ≠ "java/lang/invoke/MethodHandle" ∧ y.cls ≠ "java/lang/invoke/VarHandle") (E : Exa Z T.heap a y.cls) (hM : own_M l Z y bytes maxL ret rm (.ref a :: argsL).toArray T.heap Qr) (hf : rm.frames + 1 ≤ R.frames) (hl : W + (maxL + 11) + rm.locals ≤ R.locals) (hck : k + rm.cells ≤ R.cells) (hcj : j + rm.slots ≤ R.slots)
    (hg : g.method = m) (hsize : g.locals.size = c.maxLocals) (hlen : ∀ sig, parseMethodDescriptor y.desc = some sig → argsL.length = sig.parameters.length) (hstack : g.stack = argsL.reverse ++ .ref a :: rest) (hW : 2 * g.monitorRoom + (rest.map fun v => v.category).sum ≤ W) (hdg : decode c.code g.pc = .ok (.invokevirtual index, 3))
    (K : ∀ (T' : State) (L : List Loc) (v : Option Value), Stand p l e R s m args below meth c T' (locs ++ L) (k + rm.cells) (j + rm.slots) → Qr v T'.heap L → own_E p e below Q T' { g with pc := g.pc + 3, stack := v.toList ++ rest }) : own_E p e below Q T g := by
  obtain ⟨cq, q1, q2⟩ := E.cell
  have hpr := Cond.privateMethod_at (mvP hZ wp (args := args))
  obtain ⟨v, vm1, ⟨T', L', k', j'⟩, -, X', ⟨Lc, hQ, l', y', z'⟩, st⟩ := X.privateBack hx (y := y) hown (mvT hZ wl) (mvT hZ wm) (own_sel (z := z) (mvT hZ wsel) hc hpr (mvT hZ wm) hy) hpr (mvT hZ wc) hy (backOf (W := W) (hM []) hZ wc wi hf hl) hg hsize (Steps.refl _) (a := a) q1 q2 hlen hstack hW hdg (fun _ _ => ⟨rfl, rfl, hck, hcj⟩)
  dsimp only [Pt.U, Pt.locs, Pt.cells, Pt.slots] at X' l' y' z' st hQ
  subst l' y' z'
  exact own_sy st (K _ _ _ X' hQ)
end Own
theorem pn_1 : plainName "com/example/kinglet/kinglet/HtmlSyntax" = true := by first | (simp [plainName, overriddenIn]; done) | decide +kernel
theorem pd_1 : parseMethodDescriptor "(I)Z" = some ⟨[.int], some .boolean⟩ := by decide +kernel
theorem d1_0 : decode prog_53_method_2_code 0 = .ok (.iload_n 0, 1) := by decide +kernel
theorem d1_1 : decode prog_53_method_2_code 1 = .ok (.bipush 9, 2) := by decide +kernel
theorem d1_3 : decode prog_53_method_2_code 3 = .ok (.if_icmp .eq 41, 3) := by decide +kernel
theorem d1_6 : decode prog_53_method_2_code 6 = .ok (.iload_n 0, 1) := by decide +kernel
theorem d1_7 : decode prog_53_method_2_code 7 = .ok (.bipush 10, 2) := by decide +kernel
theorem d1_9 : decode prog_53_method_2_code 9 = .ok (.if_icmp .eq 35, 3) := by decide +kernel
theorem d1_12 : decode prog_53_method_2_code 12 = .ok (.iload_n 0, 1) := by decide +kernel
theorem d1_13 : decode prog_53_method_2_code 13 = .ok (.bipush 13, 2) := by decide +kernel
theorem d1_15 : decode prog_53_method_2_code 15 = .ok (.if_icmp .eq 29, 3) := by decide +kernel
theorem d1_18 : decode prog_53_method_2_code 18 = .ok (.iload_n 0, 1) := by decide +kernel
theorem d1_19 : decode prog_53_method_2_code 19 = .ok (.bipush 32, 2) := by decide +kernel
theorem d1_21 : decode prog_53_method_2_code 21 = .ok (.if_icmp .lt 9, 3) := by decide +kernel
theorem d1_24 : decode prog_53_method_2_code 24 = .ok (.iload_n 0, 1) := by decide +kernel
theorem d1_25 : decode prog_53_method_2_code 25 = .ok (.bipush 127, 2) := by decide +kernel
theorem d1_27 : decode prog_53_method_2_code 27 = .ok (.if_icmp .lt 17, 3) := by decide +kernel
theorem d1_30 : decode prog_53_method_2_code 30 = .ok (.iload_n 0, 1) := by decide +kernel
theorem d1_31 : decode prog_53_method_2_code 31 = .ok (.sipush 160, 3) := by decide +kernel
theorem d1_34 : decode prog_53_method_2_code 34 = .ok (.if_icmp .lt 14, 3) := by decide +kernel
theorem d1_37 : decode prog_53_method_2_code 37 = .ok (.iload_n 0, 1) := by decide +kernel
theorem d1_38 : decode prog_53_method_2_code 38 = .ok (.sipush 255, 3) := by decide +kernel
theorem d1_41 : decode prog_53_method_2_code 41 = .ok (.if_icmp .gt 7, 3) := by decide +kernel
theorem d1_44 : decode prog_53_method_2_code 44 = .ok (.iconst 1, 1) := by decide +kernel
theorem d1_45 : decode prog_53_method_2_code 45 = .ok (.goto 4, 3) := by decide +kernel
theorem d1_48 : decode prog_53_method_2_code 48 = .ok (.iconst 0, 1) := by decide +kernel
theorem d1_49 : decode prog_53_method_2_code 49 = .ok (.ireturn, 1) := by decide +kernel
theorem ef_1 (m : MethodId) (p0 : Int32) : entryFrame m #[(.int p0)] 1 = (mkF m 0 #[.val (.int p0)] []) := by first | (simp [entryFrame, mkF, argsToLocals, Value.category, maxLocals]; done) | rfl
def F1_49 (x0 : Int32) (y1 : Int32) : Int32 := (nar .boolean y1)
def F1_48 (x0 : Int32) : Int32 := (F1_49 x0 (0 : Int32))
def F1_44 (x0 : Int32) : Int32 := (F1_49 x0 (1 : Int32))
def F1_30 (x0 : Int32) : Int32 := (if x0 < (160 : Int32) then (F1_48 x0) else (if (255 : Int32) < x0 then (F1_48 x0) else (F1_44 x0)))
def F1_0 (x0 : Int32) : Int32 := (if x0 = (9 : Int32) then (F1_44 x0) else (if x0 = (10 : Int32) then (F1_44 x0) else (if x0 = (13 : Int32) then (F1_44 x0) else (if x0 < (32 : Int32) then (F1_30 x0) else (if x0 < (127 : Int32) then (F1_44 x0) else (F1_30 x0))))))
set_option maxRecDepth 65536 in
set_option maxHeartbeats 40000000 in
theorem rm1 (l : Launch) (Z : State) (a0 : Array Value) (hw : ∀ d ∈ tables_1, d.before a0 Z = true) (p0 : Int32) (h0 : Heap) (n0 : Nat) :
    own_M l Z (⟨"com/example/kinglet/kinglet/HtmlSyntax", "isSgmlCharacter", "(I)Z"⟩ : MethodName) prog_53_method_2_code 1 (some .boolean) ({ frames := 0, cells := 0, slots := 0, locals := 0 } : Room) #[(.int p0)] h0 (fun v h L => v = some (.int (F1_0 p0)) ∧ Fr n0 L ∧ h = h0) := by
  refine own_body pn_1 ?_
  intro p e s m below meth c T hx hby hml hown hZ hret hlk hnm X eT
  have N := Fr.nil n0
  obtain ⟨w, hF⟩ : ∃ w, w = F1_0 p0 := ⟨_, rfl⟩
  try rw [← hF]
  generalize hQ : own_Q s (fun v h L => v = some (.int w) ∧ Fr n0 L ∧ h = h0) ({ frames := 0, cells := 0, slots := 0, locals := 0 } : Room).cells ({ frames := 0, cells := 0, slots := 0, locals := 0 } : Room).slots = Qq
  refine own_st (fun _ k => castTop (ef_1 m p0) k) ?_
  have B49 : ∀ (T : State) (L : List Loc) (x0 : Int32) (y1 : Int32), Stand p l e ({ frames := 0, cells := 0, slots := 0, locals := 0 } : Room) s m #[(.int p0)] below meth c T L 0 0 → T.heap = h0 → Fr n0 L → w = F1_49 x0 y1 → own_E p e below Qq T (mkF m 49 #[.val (.int x0)] [(.int y1)]) := by
    intro T L x0 y1 X eT N hF
    rw [← hQ]
    exact own_retN X hx hlk (t := .boolean) hret (by simp) (hb hby d1_49) (by decide) (by decide) ⟨by (rw [hF]; try rfl), N, eT⟩
  have B48 : ∀ (T : State) (L : List Loc) (x0 : Int32), Stand p l e ({ frames := 0, cells := 0, slots := 0, locals := 0 } : Room) s m #[(.int p0)] below meth c T L 0 0 → T.heap = h0 → Fr n0 L → w = F1_48 x0 → own_E p e below Qq T (mkF m 48 #[.val (.int x0)] []) := by
    intro T L x0 X eT N hF
    refine own_st (fun _ => XS.iconst X.here hx rfl (hb hby d1_48)) ?_
    show own_E p e below Qq T (mkF m 49 #[.val (.int x0)] [(.int (0 : Int32))])
    exact B49 _ _ x0 (0 : Int32) X eT N hF
  have B44 : ∀ (T : State) (L : List Loc) (x0 : Int32), Stand p l e ({ frames := 0, cells := 0, slots := 0, locals := 0 } : Room) s m #[(.int p0)] below meth c T L 0 0 → T.heap = h0 → Fr n0 L → w = F1_44 x0 → own_E p e below Qq T (mkF m 44 #[.val (.int x0)] []) := by
    intro T L x0 X eT N hF
    refine own_st (fun _ => XS.iconst X.here hx rfl (hb hby d1_44)) ?_
    show own_E p e below Qq T (mkF m 45 #[.val (.int x0)] [(.int (1 : Int32))])
    refine own_st (fun _ => XS.goto X.here hx rfl (pc0 := 45) (pc' := 49) rfl (hb hby d1_45) (by decide) (by decide)) ?_
    show own_E p e below Qq T (mkF m 49 #[.val (.int x0)] [(.int (1 : Int32))])
    exact B49 _ _ x0 (1 : Int32) X eT N hF
  have B30 : ∀ (T : State) (L : List Loc) (x0 : Int32), Stand p l e ({ frames := 0, cells := 0, slots := 0, locals := 0 } : Room) s m #[(.int p0)] below meth c T L 0 0 → T.heap = h0 → Fr n0 L → w = F1_30 x0 → own_E p e below Qq T (mkF m 30 #[.val (.int x0)] []) := by
    intro T L x0 X eT N hF
    refine own_st (fun _ => XS.iloadN X.here hx rfl (hb hby d1_30) rfl) ?_
    show own_E p e below Qq T (mkF m 31 #[.val (.int x0)] [(.int x0)])
    refine own_st (fun _ => XS.sipush X.here hx rfl (hb hby d1_31)) ?_
    show own_E p e below Qq T (mkF m 34 #[.val (.int x0)] [(.int (160 : Int32)), (.int x0)])
    by_cases q34 : x0 < (160 : Int32)
    · replace hF := hF.trans (if_pos q34)
      refine own_st (fun _ => XS.icmpYes X.here hx rfl (pc0 := 34) (pc' := 48) rfl (hb hby d1_34) rfl (XT.ii_lt_t q34) (by decide) (by decide)) ?_
      show own_E p e below Qq T (mkF m 48 #[.val (.int x0)] [])
      exact B48 _ _ x0 X eT N hF
    · replace hF := hF.trans (if_neg q34)
      refine own_st (fun _ => XS.icmpNo X.here hx rfl (hb hby d1_34) rfl (XT.ii_lt_f q34)) ?_
      show own_E p e below Qq T (mkF m 37 #[.val (.int x0)] [])
      refine own_st (fun _ => XS.iloadN X.here hx rfl (hb hby d1_37) rfl) ?_
      show own_E p e below Qq T (mkF m 38 #[.val (.int x0)] [(.int x0)])
      refine own_st (fun _ => XS.sipush X.here hx rfl (hb hby d1_38)) ?_
      show own_E p e below Qq T (mkF m 41 #[.val (.int x0)] [(.int (255 : Int32)), (.int x0)])
      by_cases q41 : (255 : Int32) < x0
      · replace hF := hF.trans (if_pos q41)
        refine own_st (fun _ => XS.icmpYes X.here hx rfl (pc0 := 41) (pc' := 48) rfl (hb hby d1_41) rfl (XT.ii_gt_t q41) (by decide) (by decide)) ?_
        show own_E p e below Qq T (mkF m 48 #[.val (.int x0)] [])
        exact B48 _ _ x0 X eT N hF
      · replace hF := hF.trans (if_neg q41)
        refine own_st (fun _ => XS.icmpNo X.here hx rfl (hb hby d1_41) rfl (XT.ii_gt_f q41)) ?_
        show own_E p e below Qq T (mkF m 44 #[.val (.int x0)] [])
        exact B44 _ _ x0 X eT N hF
  show own_E p e below Qq T (mkF m 0 #[.val (.int p0)] [])
  refine own_st (fun _ => XS.iloadN X.here hx rfl (hb hby d1_0) rfl) ?_
  show own_E p e below Qq T (mkF m 1 #[.val (.int p0)] [(.int p0)])
  refine own_st (fun _ => XS.bipush X.here hx rfl (hb hby d1_1)) ?_
  show own_E p e below Qq T (mkF m 3 #[.val (.int p0)] [(.int (9 : Int32)), (.int p0)])
  by_cases q3 : p0 = (9 : Int32)
  · replace hF := hF.trans (if_pos q3)
    refine own_st (fun _ => XS.icmpYes X.here hx rfl (pc0 := 3) (pc' := 44) rfl (hb hby d1_3) rfl (XT.ii_eq_t q3) (by decide) (by decide)) ?_
    show own_E p e below Qq T (mkF m 44 #[.val (.int p0)] [])
    exact B44 _ _ p0 X eT N hF
  · replace hF := hF.trans (if_neg q3)
    refine own_st (fun _ => XS.icmpNo X.here hx rfl (hb hby d1_3) rfl (XT.ii_eq_f q3)) ?_
    show own_E p e below Qq T (mkF m 6 #[.val (.int p0)] [])
    refine own_st (fun _ => XS.iloadN X.here hx rfl (hb hby d1_6) rfl) ?_
    show own_E p e below Qq T (mkF m 7 #[.val (.int p0)] [(.int p0)])
    refine own_st (fun _ => XS.bipush X.here hx rfl (hb hby d1_7)) ?_
    show own_E p e below Qq T (mkF m 9 #[.val (.int p0)] [(.int (10 : Int32)), (.int p0)])
    by_cases q9 : p0 = (10 : Int32)
    · replace hF := hF.trans (if_pos q9)
      refine own_st (fun _ => XS.icmpYes X.here hx rfl (pc0 := 9) (pc' := 44) rfl (hb hby d1_9) rfl (XT.ii_eq_t q9) (by decide) (by decide)) ?_
      show own_E p e below Qq T (mkF m 44 #[.val (.int p0)] [])
      exact B44 _ _ p0 X eT N hF
    · replace hF := hF.trans (if_neg q9)
      refine own_st (fun _ => XS.icmpNo X.here hx rfl (hb hby d1_9) rfl (XT.ii_eq_f q9)) ?_
      show own_E p e below Qq T (mkF m 12 #[.val (.int p0)] [])
      refine own_st (fun _ => XS.iloadN X.here hx rfl (hb hby d1_12) rfl) ?_
      show own_E p e below Qq T (mkF m 13 #[.val (.int p0)] [(.int p0)])
      refine own_st (fun _ => XS.bipush X.here hx rfl (hb hby d1_13)) ?_
      show own_E p e below Qq T (mkF m 15 #[.val (.int p0)] [(.int (13 : Int32)), (.int p0)])
      by_cases q15 : p0 = (13 : Int32)
      · replace hF := hF.trans (if_pos q15)
        refine own_st (fun _ => XS.icmpYes X.here hx rfl (pc0 := 15) (pc' := 44) rfl (hb hby d1_15) rfl (XT.ii_eq_t q15) (by decide) (by decide)) ?_
        show own_E p e below Qq T (mkF m 44 #[.val (.int p0)] [])
        exact B44 _ _ p0 X eT N hF
      · replace hF := hF.trans (if_neg q15)
        refine own_st (fun _ => XS.icmpNo X.here hx rfl (hb hby d1_15) rfl (XT.ii_eq_f q15)) ?_
        show own_E p e below Qq T (mkF m 18 #[.val (.int p0)] [])
        refine own_st (fun _ => XS.iloadN X.here hx rfl (hb hby d1_18) rfl) ?_
        show own_E p e below Qq T (mkF m 19 #[.val (.int p0)] [(.int p0)])
        refine own_st (fun _ => XS.bipush X.here hx rfl (hb hby d1_19)) ?_
        show own_E p e below Qq T (mkF m 21 #[.val (.int p0)] [(.int (32 : Int32)), (.int p0)])
        by_cases q21 : p0 < (32 : Int32)
        · replace hF := hF.trans (if_pos q21)
          refine own_st (fun _ => XS.icmpYes X.here hx rfl (pc0 := 21) (pc' := 30) rfl (hb hby d1_21) rfl (XT.ii_lt_t q21) (by decide) (by decide)) ?_
          show own_E p e below Qq T (mkF m 30 #[.val (.int p0)] [])
          exact B30 _ _ p0 X eT N hF
        · replace hF := hF.trans (if_neg q21)
          refine own_st (fun _ => XS.icmpNo X.here hx rfl (hb hby d1_21) rfl (XT.ii_lt_f q21)) ?_
          show own_E p e below Qq T (mkF m 24 #[.val (.int p0)] [])
          refine own_st (fun _ => XS.iloadN X.here hx rfl (hb hby d1_24) rfl) ?_
          show own_E p e below Qq T (mkF m 25 #[.val (.int p0)] [(.int p0)])
          refine own_st (fun _ => XS.bipush X.here hx rfl (hb hby d1_25)) ?_
          show own_E p e below Qq T (mkF m 27 #[.val (.int p0)] [(.int (127 : Int32)), (.int p0)])
          by_cases q27 : p0 < (127 : Int32)
          · replace hF := hF.trans (if_pos q27)
            refine own_st (fun _ => XS.icmpYes X.here hx rfl (pc0 := 27) (pc' := 44) rfl (hb hby d1_27) rfl (XT.ii_lt_t q27) (by decide) (by decide)) ?_
            show own_E p e below Qq T (mkF m 44 #[.val (.int p0)] [])
            exact B44 _ _ p0 X eT N hF
          · replace hF := hF.trans (if_neg q27)
            refine own_st (fun _ => XS.icmpNo X.here hx rfl (hb hby d1_27) rfl (XT.ii_lt_f q27)) ?_
            show own_E p e below Qq T (mkF m 30 #[.val (.int p0)] [])
            exact B30 _ _ p0 X eT N hF
theorem pn_3 : plainName "com/example/kinglet/kinglet/HtmlSyntaxIsSgmlCharacterPinLaw" = true := by first | (simp [plainName, overriddenIn]; done) | decide +kernel
theorem d3_0 : decode method_2_code 0 = .ok (.iload_n 0, 1) := by decide +kernel
theorem d3_1 : decode method_2_code 1 = .ok (.bipush 32, 2) := by decide +kernel
theorem d3_3 : decode method_2_code 3 = .ok (.if_icmp .lt 16, 3) := by decide +kernel
theorem d3_6 : decode method_2_code 6 = .ok (.iload_n 0, 1) := by decide +kernel
theorem d3_7 : decode method_2_code 7 = .ok (.bipush 127, 2) := by decide +kernel
theorem d3_9 : decode method_2_code 9 = .ok (.if_icmp .lt 14, 3) := by decide +kernel
theorem d3_12 : decode method_2_code 12 = .ok (.iload_n 0, 1) := by decide +kernel
theorem d3_13 : decode method_2_code 13 = .ok (.sipush 160, 3) := by decide +kernel
theorem d3_16 : decode method_2_code 16 = .ok (.if_icmp .ge 7, 3) := by decide +kernel
theorem d3_19 : decode method_2_code 19 = .ok (.iconst 1, 1) := by decide +kernel
theorem d3_20 : decode method_2_code 20 = .ok (.goto 4, 3) := by decide +kernel
theorem d3_23 : decode method_2_code 23 = .ok (.iconst 0, 1) := by decide +kernel
theorem d3_24 : decode method_2_code 24 = .ok (.ireturn, 1) := by decide +kernel
theorem ef_3 (m : MethodId) (p0 : Int32) : entryFrame m #[(.int p0)] 1 = (mkF m 0 #[.val (.int p0)] []) := by first | (simp [entryFrame, mkF, argsToLocals, Value.category, maxLocals]; done) | rfl
def F3_24 (x0 : Int32) (y1 : Int32) : Int32 := (nar .boolean y1)
def F3_23 (x0 : Int32) : Int32 := (F3_24 x0 (0 : Int32))
def F3_19 (x0 : Int32) : Int32 := (F3_24 x0 (1 : Int32))
def F3_0 (x0 : Int32) : Int32 := (if x0 < (32 : Int32) then (F3_19 x0) else (if x0 < (127 : Int32) then (F3_23 x0) else (if x0 < (160 : Int32) then (F3_19 x0) else (F3_23 x0))))
set_option maxRecDepth 65536 in
set_option maxHeartbeats 40000000 in
theorem rm3 (l : Launch) (Z : State) (a0 : Array Value) (hw : ∀ d ∈ tables_1, d.before a0 Z = true) (p0 : Int32) (h0 : Heap) (n0 : Nat) :
    own_M l Z (⟨"com/example/kinglet/kinglet/HtmlSyntaxIsSgmlCharacterPinLaw", "isControl", "(I)Z"⟩ : MethodName) method_2_code 1 (some .boolean) ({ frames := 0, cells := 0, slots := 0, locals := 0 } : Room) #[(.int p0)] h0 (fun v h L => v = some (.int (F3_0 p0)) ∧ Fr n0 L ∧ h = h0) := by
  refine own_body pn_3 ?_
  intro p e s m below meth c T hx hby hml hown hZ hret hlk hnm X eT
  have N := Fr.nil n0
  obtain ⟨w, hF⟩ : ∃ w, w = F3_0 p0 := ⟨_, rfl⟩
  try rw [← hF]
  generalize hQ : own_Q s (fun v h L => v = some (.int w) ∧ Fr n0 L ∧ h = h0) ({ frames := 0, cells := 0, slots := 0, locals := 0 } : Room).cells ({ frames := 0, cells := 0, slots := 0, locals := 0 } : Room).slots = Qq
  refine own_st (fun _ k => castTop (ef_3 m p0) k) ?_
  have B24 : ∀ (T : State) (L : List Loc) (x0 : Int32) (y1 : Int32), Stand p l e ({ frames := 0, cells := 0, slots := 0, locals := 0 } : Room) s m #[(.int p0)] below meth c T L 0 0 → T.heap = h0 → Fr n0 L → w = F3_24 x0 y1 → own_E p e below Qq T (mkF m 24 #[.val (.int x0)] [(.int y1)]) := by
    intro T L x0 y1 X eT N hF
    rw [← hQ]
    exact own_retN X hx hlk (t := .boolean) hret (by simp) (hb hby d3_24) (by decide) (by decide) ⟨by (rw [hF]; try rfl), N, eT⟩
  have B23 : ∀ (T : State) (L : List Loc) (x0 : Int32), Stand p l e ({ frames := 0, cells := 0, slots := 0, locals := 0 } : Room) s m #[(.int p0)] below meth c T L 0 0 → T.heap = h0 → Fr n0 L → w = F3_23 x0 → own_E p e below Qq T (mkF m 23 #[.val (.int x0)] []) := by
    intro T L x0 X eT N hF
    refine own_st (fun _ => XS.iconst X.here hx rfl (hb hby d3_23)) ?_
    show own_E p e below Qq T (mkF m 24 #[.val (.int x0)] [(.int (0 : Int32))])
    exact B24 _ _ x0 (0 : Int32) X eT N hF
  have B19 : ∀ (T : State) (L : List Loc) (x0 : Int32), Stand p l e ({ frames := 0, cells := 0, slots := 0, locals := 0 } : Room) s m #[(.int p0)] below meth c T L 0 0 → T.heap = h0 → Fr n0 L → w = F3_19 x0 → own_E p e below Qq T (mkF m 19 #[.val (.int x0)] []) := by
    intro T L x0 X eT N hF
    refine own_st (fun _ => XS.iconst X.here hx rfl (hb hby d3_19)) ?_
    show own_E p e below Qq T (mkF m 20 #[.val (.int x0)] [(.int (1 : Int32))])
    refine own_st (fun _ => XS.goto X.here hx rfl (pc0 := 20) (pc' := 24) rfl (hb hby d3_20) (by decide) (by decide)) ?_
    show own_E p e below Qq T (mkF m 24 #[.val (.int x0)] [(.int (1 : Int32))])
    exact B24 _ _ x0 (1 : Int32) X eT N hF
  show own_E p e below Qq T (mkF m 0 #[.val (.int p0)] [])
  refine own_st (fun _ => XS.iloadN X.here hx rfl (hb hby d3_0) rfl) ?_
  show own_E p e below Qq T (mkF m 1 #[.val (.int p0)] [(.int p0)])
  refine own_st (fun _ => XS.bipush X.here hx rfl (hb hby d3_1)) ?_
  show own_E p e below Qq T (mkF m 3 #[.val (.int p0)] [(.int (32 : Int32)), (.int p0)])
  by_cases q3 : p0 < (32 : Int32)
  · replace hF := hF.trans (if_pos q3)
    refine own_st (fun _ => XS.icmpYes X.here hx rfl (pc0 := 3) (pc' := 19) rfl (hb hby d3_3) rfl (XT.ii_lt_t q3) (by decide) (by decide)) ?_
    show own_E p e below Qq T (mkF m 19 #[.val (.int p0)] [])
    exact B19 _ _ p0 X eT N hF
  · replace hF := hF.trans (if_neg q3)
    refine own_st (fun _ => XS.icmpNo X.here hx rfl (hb hby d3_3) rfl (XT.ii_lt_f q3)) ?_
    show own_E p e below Qq T (mkF m 6 #[.val (.int p0)] [])
    refine own_st (fun _ => XS.iloadN X.here hx rfl (hb hby d3_6) rfl) ?_
    show own_E p e below Qq T (mkF m 7 #[.val (.int p0)] [(.int p0)])
    refine own_st (fun _ => XS.bipush X.here hx rfl (hb hby d3_7)) ?_
    show own_E p e below Qq T (mkF m 9 #[.val (.int p0)] [(.int (127 : Int32)), (.int p0)])
    by_cases q9 : p0 < (127 : Int32)
    · replace hF := hF.trans (if_pos q9)
      refine own_st (fun _ => XS.icmpYes X.here hx rfl (pc0 := 9) (pc' := 23) rfl (hb hby d3_9) rfl (XT.ii_lt_t q9) (by decide) (by decide)) ?_
      show own_E p e below Qq T (mkF m 23 #[.val (.int p0)] [])
      exact B23 _ _ p0 X eT N hF
    · replace hF := hF.trans (if_neg q9)
      refine own_st (fun _ => XS.icmpNo X.here hx rfl (hb hby d3_9) rfl (XT.ii_lt_f q9)) ?_
      show own_E p e below Qq T (mkF m 12 #[.val (.int p0)] [])
      refine own_st (fun _ => XS.iloadN X.here hx rfl (hb hby d3_12) rfl) ?_
      show own_E p e below Qq T (mkF m 13 #[.val (.int p0)] [(.int p0)])
      refine own_st (fun _ => XS.sipush X.here hx rfl (hb hby d3_13)) ?_
      show own_E p e below Qq T (mkF m 16 #[.val (.int p0)] [(.int (160 : Int32)), (.int p0)])
      by_cases q16 : p0 < (160 : Int32)
      · replace hF := hF.trans (if_pos q16)
        refine own_st (fun _ => XS.icmpNo X.here hx rfl (hb hby d3_16) rfl (XT.ii_ge_f q16)) ?_
        show own_E p e below Qq T (mkF m 19 #[.val (.int p0)] [])
        exact B19 _ _ p0 X eT N hF
      · replace hF := hF.trans (if_neg q16)
        refine own_st (fun _ => XS.icmpYes X.here hx rfl (pc0 := 16) (pc' := 23) rfl (hb hby d3_16) rfl (XT.ii_ge_t q16) (by decide) (by decide)) ?_
        show own_E p e below Qq T (mkF m 23 #[.val (.int p0)] [])
        exact B23 _ _ p0 X eT N hF
theorem d2_0 : decode method_3_code 0 = .ok (.iload_n 0, 1) := by decide +kernel
theorem d2_1 : decode method_3_code 1 = .ok (.ifCond .lt 14, 3) := by decide +kernel
theorem d2_4 : decode method_3_code 4 = .ok (.iload_n 0, 1) := by decide +kernel
theorem d2_5 : decode method_3_code 5 = .ok (.sipush 255, 3) := by decide +kernel
theorem d2_8 : decode method_3_code 8 = .ok (.if_icmp .gt 7, 3) := by decide +kernel
theorem d2_11 : decode method_3_code 11 = .ok (.iconst 1, 1) := by decide +kernel
theorem d2_12 : decode method_3_code 12 = .ok (.goto 4, 3) := by decide +kernel
theorem d2_15 : decode method_3_code 15 = .ok (.iconst 0, 1) := by decide +kernel
theorem d2_16 : decode method_3_code 16 = .ok (.istore_n 1, 1) := by decide +kernel
theorem d2_17 : decode method_3_code 17 = .ok (.iload_n 1, 1) := by decide +kernel
theorem d2_18 : decode method_3_code 18 = .ok (.ifCond .ne 5, 3) := by decide +kernel
theorem d2_21 : decode method_3_code 21 = .ok (.iconst 0, 1) := by decide +kernel
theorem d2_22 : decode method_3_code 22 = .ok (.ireturn, 1) := by decide +kernel
theorem d2_23 : decode method_3_code 23 = .ok (.iload_n 0, 1) := by decide +kernel
theorem d2_24 : decode method_3_code 24 = .ok (.invokestatic 7, 3) := by decide +kernel
theorem d2_27 : decode method_3_code 27 = .ok (.ifCond .ne 5, 3) := by decide +kernel
theorem d2_30 : decode method_3_code 30 = .ok (.iconst 1, 1) := by decide +kernel
theorem d2_31 : decode method_3_code 31 = .ok (.ireturn, 1) := by decide +kernel
theorem d2_32 : decode method_3_code 32 = .ok (.iload_n 0, 1) := by decide +kernel
theorem d2_33 : decode method_3_code 33 = .ok (.bipush 9, 2) := by decide +kernel
theorem d2_35 : decode method_3_code 35 = .ok (.if_icmp .eq 15, 3) := by decide +kernel
theorem d2_38 : decode method_3_code 38 = .ok (.iload_n 0, 1) := by decide +kernel
theorem d2_39 : decode method_3_code 39 = .ok (.bipush 10, 2) := by decide +kernel
theorem d2_41 : decode method_3_code 41 = .ok (.if_icmp .eq 9, 3) := by decide +kernel
theorem d2_44 : decode method_3_code 44 = .ok (.iload_n 0, 1) := by decide +kernel
theorem d2_45 : decode method_3_code 45 = .ok (.bipush 13, 2) := by decide +kernel
theorem d2_47 : decode method_3_code 47 = .ok (.if_icmp .ne 7, 3) := by decide +kernel
theorem d2_50 : decode method_3_code 50 = .ok (.iconst 1, 1) := by decide +kernel
theorem d2_51 : decode method_3_code 51 = .ok (.goto 4, 3) := by decide +kernel
theorem d2_54 : decode method_3_code 54 = .ok (.iconst 0, 1) := by decide +kernel
theorem d2_55 : decode method_3_code 55 = .ok (.ireturn, 1) := by decide +kernel
theorem ef_2 (m : MethodId) (p0 : Int32) : entryFrame m #[(.int p0)] 2 = (mkF m 0 #[.val (.int p0), .unset] []) := by first | (simp [entryFrame, mkF, argsToLocals, Value.category, maxLocals]; done) | rfl
def F2_55 (x0 : Int32) (x1 : Int32) (y2 : Int32) : Int32 := (nar .boolean y2)
def F2_50 (x0 : Int32) (x1 : Int32) : Int32 := (F2_55 x0 x1 (1 : Int32))
def F2_16 (x0 : Int32) (y1 : Int32) : Int32 := (if y1 = (0 : Int32) then (0 : Int32) else (if (F3_0 x0) = (0 : Int32) then (1 : Int32) else (if x0 = (9 : Int32) then (F2_50 x0 y1) else (if x0 = (10 : Int32) then (F2_50 x0 y1) else (if x0 = (13 : Int32) then (F2_50 x0 y1) else (F2_55 x0 y1 (0 : Int32)))))))
def F2_15 (x0 : Int32) : Int32 := (F2_16 x0 (0 : Int32))
def F2_0 (x0 : Int32) : Int32 := (if x0 < (0 : Int32) then (F2_15 x0) else (if (255 : Int32) < x0 then (F2_15 x0) else (F2_16 x0 (1 : Int32))))
set_option maxRecDepth 65536 in
set_option maxHeartbeats 40000000 in
theorem rm2 (l : Launch) (Z : State) (a0 : Array Value) (hw : ∀ d ∈ tables_1, d.before a0 Z = true) (p0 : Int32) (h0 : Heap) (n0 : Nat) :
    own_M l Z (⟨"com/example/kinglet/kinglet/HtmlSyntaxIsSgmlCharacterPinLaw", "ref", "(I)Z"⟩ : MethodName) method_3_code 2 (some .boolean) ({ frames := 1, cells := 0, slots := 0, locals := 20 } : Room) #[(.int p0)] h0 (fun v h L => v = some (.int (F2_0 p0)) ∧ Fr n0 L ∧ h = h0) := by
  refine own_body pn_3 ?_
  intro p e s m below meth c T hx hby hml hown hZ hret hlk hnm X eT
  have N := Fr.nil n0
  obtain ⟨w, hF⟩ : ∃ w, w = F2_0 p0 := ⟨_, rfl⟩
  try rw [← hF]
  generalize hQ : own_Q s (fun v h L => v = some (.int w) ∧ Fr n0 L ∧ h = h0) ({ frames := 1, cells := 0, slots := 0, locals := 20 } : Room).cells ({ frames := 1, cells := 0, slots := 0, locals := 20 } : Room).slots = Qq
  refine own_st (fun _ k => castTop (ef_2 m p0) k) ?_
  have B55 : ∀ (T : State) (L : List Loc) (x0 : Int32) (x1 : Int32) (y2 : Int32), Stand p l e ({ frames := 1, cells := 0, slots := 0, locals := 20 } : Room) s m #[(.int p0)] below meth c T L 0 0 → T.heap = h0 → Fr n0 L → w = F2_55 x0 x1 y2 → own_E p e below Qq T (mkF m 55 #[.val (.int x0), .val (.int x1)] [(.int y2)]) := by
    intro T L x0 x1 y2 X eT N hF
    rw [← hQ]
    exact own_retN X hx hlk (t := .boolean) hret (by simp) (hb hby d2_55) (by decide) (by decide) ⟨by (rw [hF]; try rfl), N, eT⟩
  have B50 : ∀ (T : State) (L : List Loc) (x0 : Int32) (x1 : Int32), Stand p l e ({ frames := 1, cells := 0, slots := 0, locals := 20 } : Room) s m #[(.int p0)] below meth c T L 0 0 → T.heap = h0 → Fr n0 L → w = F2_50 x0 x1 → own_E p e below Qq T (mkF m 50 #[.val (.int x0), .val (.int x1)] []) := by
    intro T L x0 x1 X eT N hF
    refine own_st (fun _ => XS.iconst X.here hx rfl (hb hby d2_50)) ?_
    show own_E p e below Qq T (mkF m 51 #[.val (.int x0), .val (.int x1)] [(.int (1 : Int32))])
    refine own_st (fun _ => XS.goto X.here hx rfl (pc0 := 51) (pc' := 55) rfl (hb hby d2_51) (by decide) (by decide)) ?_
    show own_E p e below Qq T (mkF m 55 #[.val (.int x0), .val (.int x1)] [(.int (1 : Int32))])
    exact B55 _ _ x0 x1 (1 : Int32) X eT N hF
  have B16 : ∀ (T : State) (L : List Loc) (x0 : Int32) (y1 : Int32), Stand p l e ({ frames := 1, cells := 0, slots := 0, locals := 20 } : Room) s m #[(.int p0)] below meth c T L 0 0 → T.heap = h0 → Fr n0 L → w = F2_16 x0 y1 → own_E p e below Qq T (mkF m 16 #[.val (.int x0), .unset] [(.int y1)]) := by
    intro T L x0 y1 X eT N hF
    refine own_st (fun _ => XS.istoreN X.here hx rfl (hb hby d2_16) rfl (l' := #[.val (.int x0), .val (.int y1)]) rfl) ?_
    show own_E p e below Qq T (mkF m 17 #[.val (.int x0), .val (.int y1)] [])
    refine own_st (fun _ => XS.iloadN X.here hx rfl (hb hby d2_17) rfl) ?_
    show own_E p e below Qq T (mkF m 18 #[.val (.int x0), .val (.int y1)] [(.int y1)])
    by_cases q18 : y1 = (0 : Int32)
    · replace hF := hF.trans (if_pos q18)
      refine own_st (fun _ => XS.ifNo X.here hx rfl (hb hby d2_18) rfl (XT.i0_ne_f q18)) ?_
      show own_E p e below Qq T (mkF m 21 #[.val (.int x0), .val (.int y1)] [])
      refine own_st (fun _ => XS.iconst X.here hx rfl (hb hby d2_21)) ?_
      show own_E p e below Qq T (mkF m 22 #[.val (.int x0), .val (.int y1)] [(.int (0 : Int32))])
      rw [← hQ]
      exact own_retN X hx hlk (t := .boolean) hret (by simp) (hb hby d2_22) (by decide) (by decide) ⟨by (rw [hF]; try rfl), N, eT⟩
    · replace hF := hF.trans (if_neg q18)
      refine own_st (fun _ => XS.ifYes X.here hx rfl (pc0 := 18) (pc' := 23) rfl (hb hby d2_18) rfl (XT.i0_ne_t q18) (by decide) (by decide)) ?_
      show own_E p e below Qq T (mkF m 23 #[.val (.int x0), .val (.int y1)] [])
      refine own_st (fun _ => XS.iloadN X.here hx rfl (hb hby d2_23) rfl) ?_
      show own_E p e below Qq T (mkF m 24 #[.val (.int x0), .val (.int y1)] [(.int x0)])
      refine own_callS X hx hZ hown (hw _ (List.mem_of_getElem? (i := 8) rfl)) (hw _ (List.mem_of_getElem? (i := 9) rfl)) (hw _ (List.mem_of_getElem? (i := 6) rfl)) (hw _ (List.mem_of_getElem? (i := 10) rfl)) (by decide) (W := 0) (argsL := [(.int x0)]) (rest := []) (rm3 l Z a0 hw x0 _ n0) (by decide) (by decide) (by decide) (by decide) rfl (by rw [hml]; rfl) (lenOf pd_1 rfl) rfl (by show 2 * 0 + _ ≤ _; exact Nat.le_of_eq rfl) (hb hby d2_24) ?_
      intro T1 L1 v X' hq
      obtain ⟨rfl, N', e'⟩ := hq
      replace eT := e'.trans eT
      replace N := Fr.app N N'
      replace X : Stand p l e ({ frames := 1, cells := 0, slots := 0, locals := 20 } : Room) s m #[(.int p0)] below meth c T1 _ 0 0 := X'
      clear X' N' e'
      show own_E p e below Qq T1 (mkF m 27 #[.val (.int x0), .val (.int y1)] [(.int (F3_0 x0))])
      by_cases q27 : (F3_0 x0) = (0 : Int32)
      · replace hF := hF.trans (if_pos q27)
        refine own_st (fun _ => XS.ifNo X.here hx rfl (hb hby d2_27) rfl (XT.i0_ne_f q27)) ?_
        show own_E p e below Qq T1 (mkF m 30 #[.val (.int x0), .val (.int y1)] [])
        refine own_st (fun _ => XS.iconst X.here hx rfl (hb hby d2_30)) ?_
        show own_E p e below Qq T1 (mkF m 31 #[.val (.int x0), .val (.int y1)] [(.int (1 : Int32))])
        rw [← hQ]
        exact own_retN X hx hlk (t := .boolean) hret (by simp) (hb hby d2_31) (by decide) (by decide) ⟨by (rw [hF]; try rfl), N, eT⟩
      · replace hF := hF.trans (if_neg q27)
        refine own_st (fun _ => XS.ifYes X.here hx rfl (pc0 := 27) (pc' := 32) rfl (hb hby d2_27) rfl (XT.i0_ne_t q27) (by decide) (by decide)) ?_
        show own_E p e below Qq T1 (mkF m 32 #[.val (.int x0), .val (.int y1)] [])
        refine own_st (fun _ => XS.iloadN X.here hx rfl (hb hby d2_32) rfl) ?_
        show own_E p e below Qq T1 (mkF m 33 #[.val (.int x0), .val (.int y1)] [(.int x0)])
        refine own_st (fun _ => XS.bipush X.here hx rfl (hb hby d2_33)) ?_
        show own_E p e below Qq T1 (mkF m 35 #[.val (.int x0), .val (.int y1)] [(.int (9 : Int32)), (.int x0)])
        by_cases q35 : x0 = (9 : Int32)
        · replace hF := hF.trans (if_pos q35)
          refine own_st (fun _ => XS.icmpYes X.here hx rfl (pc0 := 35) (pc' := 50) rfl (hb hby d2_35) rfl (XT.ii_eq_t q35) (by decide) (by decide)) ?_
          show own_E p e below Qq T1 (mkF m 50 #[.val (.int x0), .val (.int y1)] [])
          exact B50 _ _ x0 y1 X eT N hF
        · replace hF := hF.trans (if_neg q35)
          refine own_st (fun _ => XS.icmpNo X.here hx rfl (hb hby d2_35) rfl (XT.ii_eq_f q35)) ?_
          show own_E p e below Qq T1 (mkF m 38 #[.val (.int x0), .val (.int y1)] [])
          refine own_st (fun _ => XS.iloadN X.here hx rfl (hb hby d2_38) rfl) ?_
          show own_E p e below Qq T1 (mkF m 39 #[.val (.int x0), .val (.int y1)] [(.int x0)])
          refine own_st (fun _ => XS.bipush X.here hx rfl (hb hby d2_39)) ?_
          show own_E p e below Qq T1 (mkF m 41 #[.val (.int x0), .val (.int y1)] [(.int (10 : Int32)), (.int x0)])
          by_cases q41 : x0 = (10 : Int32)
          · replace hF := hF.trans (if_pos q41)
            refine own_st (fun _ => XS.icmpYes X.here hx rfl (pc0 := 41) (pc' := 50) rfl (hb hby d2_41) rfl (XT.ii_eq_t q41) (by decide) (by decide)) ?_
            show own_E p e below Qq T1 (mkF m 50 #[.val (.int x0), .val (.int y1)] [])
            exact B50 _ _ x0 y1 X eT N hF
          · replace hF := hF.trans (if_neg q41)
            refine own_st (fun _ => XS.icmpNo X.here hx rfl (hb hby d2_41) rfl (XT.ii_eq_f q41)) ?_
            show own_E p e below Qq T1 (mkF m 44 #[.val (.int x0), .val (.int y1)] [])
            refine own_st (fun _ => XS.iloadN X.here hx rfl (hb hby d2_44) rfl) ?_
            show own_E p e below Qq T1 (mkF m 45 #[.val (.int x0), .val (.int y1)] [(.int x0)])
            refine own_st (fun _ => XS.bipush X.here hx rfl (hb hby d2_45)) ?_
            show own_E p e below Qq T1 (mkF m 47 #[.val (.int x0), .val (.int y1)] [(.int (13 : Int32)), (.int x0)])
            by_cases q47 : x0 = (13 : Int32)
            · replace hF := hF.trans (if_pos q47)
              refine own_st (fun _ => XS.icmpNo X.here hx rfl (hb hby d2_47) rfl (XT.ii_ne_f q47)) ?_
              show own_E p e below Qq T1 (mkF m 50 #[.val (.int x0), .val (.int y1)] [])
              exact B50 _ _ x0 y1 X eT N hF
            · replace hF := hF.trans (if_neg q47)
              refine own_st (fun _ => XS.icmpYes X.here hx rfl (pc0 := 47) (pc' := 54) rfl (hb hby d2_47) rfl (XT.ii_ne_t q47) (by decide) (by decide)) ?_
              show own_E p e below Qq T1 (mkF m 54 #[.val (.int x0), .val (.int y1)] [])
              refine own_st (fun _ => XS.iconst X.here hx rfl (hb hby d2_54)) ?_
              show own_E p e below Qq T1 (mkF m 55 #[.val (.int x0), .val (.int y1)] [(.int (0 : Int32))])
              exact B55 _ _ x0 y1 (0 : Int32) X eT N hF
  have B15 : ∀ (T : State) (L : List Loc) (x0 : Int32), Stand p l e ({ frames := 1, cells := 0, slots := 0, locals := 20 } : Room) s m #[(.int p0)] below meth c T L 0 0 → T.heap = h0 → Fr n0 L → w = F2_15 x0 → own_E p e below Qq T (mkF m 15 #[.val (.int x0), .unset] []) := by
    intro T L x0 X eT N hF
    refine own_st (fun _ => XS.iconst X.here hx rfl (hb hby d2_15)) ?_
    show own_E p e below Qq T (mkF m 16 #[.val (.int x0), .unset] [(.int (0 : Int32))])
    exact B16 _ _ x0 (0 : Int32) X eT N hF
  show own_E p e below Qq T (mkF m 0 #[.val (.int p0), .unset] [])
  refine own_st (fun _ => XS.iloadN X.here hx rfl (hb hby d2_0) rfl) ?_
  show own_E p e below Qq T (mkF m 1 #[.val (.int p0), .unset] [(.int p0)])
  by_cases q1 : p0 < (0 : Int32)
  · replace hF := hF.trans (if_pos q1)
    refine own_st (fun _ => XS.ifYes X.here hx rfl (pc0 := 1) (pc' := 15) rfl (hb hby d2_1) rfl (XT.i0_lt_t q1) (by decide) (by decide)) ?_
    show own_E p e below Qq T (mkF m 15 #[.val (.int p0), .unset] [])
    exact B15 _ _ p0 X eT N hF
  · replace hF := hF.trans (if_neg q1)
    refine own_st (fun _ => XS.ifNo X.here hx rfl (hb hby d2_1) rfl (XT.i0_lt_f q1)) ?_
    show own_E p e below Qq T (mkF m 4 #[.val (.int p0), .unset] [])
    refine own_st (fun _ => XS.iloadN X.here hx rfl (hb hby d2_4) rfl) ?_
    show own_E p e below Qq T (mkF m 5 #[.val (.int p0), .unset] [(.int p0)])
    refine own_st (fun _ => XS.sipush X.here hx rfl (hb hby d2_5)) ?_
    show own_E p e below Qq T (mkF m 8 #[.val (.int p0), .unset] [(.int (255 : Int32)), (.int p0)])
    by_cases q8 : (255 : Int32) < p0
    · replace hF := hF.trans (if_pos q8)
      refine own_st (fun _ => XS.icmpYes X.here hx rfl (pc0 := 8) (pc' := 15) rfl (hb hby d2_8) rfl (XT.ii_gt_t q8) (by decide) (by decide)) ?_
      show own_E p e below Qq T (mkF m 15 #[.val (.int p0), .unset] [])
      exact B15 _ _ p0 X eT N hF
    · replace hF := hF.trans (if_neg q8)
      refine own_st (fun _ => XS.icmpNo X.here hx rfl (hb hby d2_8) rfl (XT.ii_gt_f q8)) ?_
      show own_E p e below Qq T (mkF m 11 #[.val (.int p0), .unset] [])
      refine own_st (fun _ => XS.iconst X.here hx rfl (hb hby d2_11)) ?_
      show own_E p e below Qq T (mkF m 12 #[.val (.int p0), .unset] [(.int (1 : Int32))])
      refine own_st (fun _ => XS.goto X.here hx rfl (pc0 := 12) (pc' := 16) rfl (hb hby d2_12) (by decide) (by decide)) ?_
      show own_E p e below Qq T (mkF m 16 #[.val (.int p0), .unset] [(.int (1 : Int32))])
      exact B16 _ _ p0 (1 : Int32) X eT N hF
theorem ef_0 (m : MethodId) (p0 : Int32) (p1 : Int32) : entryFrame m #[(.int p0), (.int p1)] maxLocals = (mkF m 0 #[.val (.int p0), .val (.int p1), .unset, .unset, .unset] []) := by first | (simp [entryFrame, mkF, argsToLocals, Value.category, maxLocals]; done) | rfl
def F0_58 (x0 : Int32) (x1 : Int32) (x2 : Int32) (x3 : Int32) (x4 : Int32) (y5 : Int32) : Int32 := (nar .boolean y5)
def F0_57 (x0 : Int32) (x1 : Int32) (x2 : Int32) (x3 : Int32) (x4 : Int32) : Int32 := (F0_58 x0 x1 x2 x3 x4 (0 : Int32))
def F0_42 (x0 : Int32) (x1 : Int32) (x2 : Int32) (x3 : Int32) (y4 : Int32) : Int32 := (if x3 = (0 : Int32) then (F0_57 x0 x1 x2 x3 y4) else (if y4 = (0 : Int32) then (F0_57 x0 x1 x2 x3 y4) else (F0_58 x0 x1 x2 x3 y4 (1 : Int32))))
def F0_25 (x0 : Int32) (x1 : Int32) (x2 : Int32) (y3 : Int32) : Int32 := (if (F1_0 x2) = (F2_0 x2) then (F0_42 x0 x1 x2 y3 (1 : Int32)) else (F0_42 x0 x1 x2 y3 (0 : Int32)))
def F0_0 (x0 : Int32) (x1 : Int32) : Int32 := (if (F1_0 x0) = (F2_0 x0) then (F0_25 x0 x1 ((x1 &&& (511 : Int32)) - (64 : Int32)) (1 : Int32)) else (F0_25 x0 x1 ((x1 &&& (511 : Int32)) - (64 : Int32)) (0 : Int32)))
set_option maxRecDepth 65536 in
set_option maxHeartbeats 40000000 in
theorem rm0 (l : Launch) (Z : State) (a0 : Array Value) (hw : ∀ d ∈ tables_1, d.before a0 Z = true) (p0 : Int32) (p1 : Int32) (h0 : Heap) (n0 : Nat) (Z0 : n0 ≤ h0.size) :
    own_M l Z x code maxLocals ret room_1 #[(.int p0), (.int p1)] h0 (fun v h L => v = some (.int (F0_0 p0 p1)) ∧ Fr n0 L ∧ h = h0) := by
  refine own_body pn_3 ?_
  intro p e s m below meth c T hx hby hml hown hZ hret hlk hnm X eT
  have N := Fr.nil n0
  obtain ⟨w, hF⟩ : ∃ w, w = F0_0 p0 p1 := ⟨_, rfl⟩
  try rw [← hF]
  generalize hQ : own_Q s (fun v h L => v = some (.int w) ∧ Fr n0 L ∧ h = h0) room_1.cells room_1.slots = Qq
  refine own_st (fun _ k => castTop (ef_0 m p0 p1) k) ?_
  have B58 : ∀ (T : State) (L : List Loc) (x0 : Int32) (x1 : Int32) (x2 : Int32) (x3 : Int32) (x4 : Int32) (y5 : Int32), Stand p l e room_1 s m #[(.int p0), (.int p1)] below meth c T L 0 0 → T.heap = h0 → Fr n0 L → w = F0_58 x0 x1 x2 x3 x4 y5 → own_E p e below Qq T (mkF m 58 #[.val (.int x0), .val (.int x1), .val (.int x2), .val (.int x3), .val (.int x4)] [(.int y5)]) := by
    intro T L x0 x1 x2 x3 x4 y5 X eT N hF
    rw [← hQ]
    exact own_retN X hx hlk (t := .boolean) hret (by simp) (hb hby at_58) (by decide) (by decide) ⟨by (rw [hF]; try rfl), N, eT⟩
  have B57 : ∀ (T : State) (L : List Loc) (x0 : Int32) (x1 : Int32) (x2 : Int32) (x3 : Int32) (x4 : Int32), Stand p l e room_1 s m #[(.int p0), (.int p1)] below meth c T L 0 0 → T.heap = h0 → Fr n0 L → w = F0_57 x0 x1 x2 x3 x4 → own_E p e below Qq T (mkF m 57 #[.val (.int x0), .val (.int x1), .val (.int x2), .val (.int x3), .val (.int x4)] []) := by
    intro T L x0 x1 x2 x3 x4 X eT N hF
    refine own_st (fun _ => XS.iconst X.here hx rfl (hb hby at_57)) ?_
    show own_E p e below Qq T (mkF m 58 #[.val (.int x0), .val (.int x1), .val (.int x2), .val (.int x3), .val (.int x4)] [(.int (0 : Int32))])
    exact B58 _ _ x0 x1 x2 x3 x4 (0 : Int32) X eT N hF
  have B42 : ∀ (T : State) (L : List Loc) (x0 : Int32) (x1 : Int32) (x2 : Int32) (x3 : Int32) (y4 : Int32), Stand p l e room_1 s m #[(.int p0), (.int p1)] below meth c T L 0 0 → T.heap = h0 → Fr n0 L → w = F0_42 x0 x1 x2 x3 y4 → own_E p e below Qq T (mkF m 42 #[.val (.int x0), .val (.int x1), .val (.int x2), .val (.int x3), .unset] [(.int y4)]) := by
    intro T L x0 x1 x2 x3 y4 X eT N hF
    refine own_st (fun _ => XS.istore X.here hx rfl (hb hby at_42) rfl (l' := #[.val (.int x0), .val (.int x1), .val (.int x2), .val (.int x3), .val (.int y4)]) rfl) ?_
    show own_E p e below Qq T (mkF m 44 #[.val (.int x0), .val (.int x1), .val (.int x2), .val (.int x3), .val (.int y4)] [])
    refine own_st (fun _ => XS.iloadN X.here hx rfl (hb hby at_44) rfl) ?_
    show own_E p e below Qq T (mkF m 45 #[.val (.int x0), .val (.int x1), .val (.int x2), .val (.int x3), .val (.int y4)] [(.int x3)])
    by_cases q45 : x3 = (0 : Int32)
    · replace hF := hF.trans (if_pos q45)
      refine own_st (fun _ => XS.ifYes X.here hx rfl (pc0 := 45) (pc' := 57) rfl (hb hby at_45) rfl (XT.i0_eq_t q45) (by decide) (by decide)) ?_
      show own_E p e below Qq T (mkF m 57 #[.val (.int x0), .val (.int x1), .val (.int x2), .val (.int x3), .val (.int y4)] [])
      exact B57 _ _ x0 x1 x2 x3 y4 X eT N hF
    · replace hF := hF.trans (if_neg q45)
      refine own_st (fun _ => XS.ifNo X.here hx rfl (hb hby at_45) rfl (XT.i0_eq_f q45)) ?_
      show own_E p e below Qq T (mkF m 48 #[.val (.int x0), .val (.int x1), .val (.int x2), .val (.int x3), .val (.int y4)] [])
      refine own_st (fun _ => XS.iload X.here hx rfl (hb hby at_48) rfl) ?_
      show own_E p e below Qq T (mkF m 50 #[.val (.int x0), .val (.int x1), .val (.int x2), .val (.int x3), .val (.int y4)] [(.int y4)])
      by_cases q50 : y4 = (0 : Int32)
      · replace hF := hF.trans (if_pos q50)
        refine own_st (fun _ => XS.ifYes X.here hx rfl (pc0 := 50) (pc' := 57) rfl (hb hby at_50) rfl (XT.i0_eq_t q50) (by decide) (by decide)) ?_
        show own_E p e below Qq T (mkF m 57 #[.val (.int x0), .val (.int x1), .val (.int x2), .val (.int x3), .val (.int y4)] [])
        exact B57 _ _ x0 x1 x2 x3 y4 X eT N hF
      · replace hF := hF.trans (if_neg q50)
        refine own_st (fun _ => XS.ifNo X.here hx rfl (hb hby at_50) rfl (XT.i0_eq_f q50)) ?_
        show own_E p e below Qq T (mkF m 53 #[.val (.int x0), .val (.int x1), .val (.int x2), .val (.int x3), .val (.int y4)] [])
        refine own_st (fun _ => XS.iconst X.here hx rfl (hb hby at_53)) ?_
        show own_E p e below Qq T (mkF m 54 #[.val (.int x0), .val (.int x1), .val (.int x2), .val (.int x3), .val (.int y4)] [(.int (1 : Int32))])
        refine own_st (fun _ => XS.goto X.here hx rfl (pc0 := 54) (pc' := 58) rfl (hb hby at_54) (by decide) (by decide)) ?_
        show own_E p e below Qq T (mkF m 58 #[.val (.int x0), .val (.int x1), .val (.int x2), .val (.int x3), .val (.int y4)] [(.int (1 : Int32))])
        exact B58 _ _ x0 x1 x2 x3 y4 (1 : Int32) X eT N hF
  have B25 : ∀ (T : State) (L : List Loc) (x0 : Int32) (x1 : Int32) (x2 : Int32) (y3 : Int32), Stand p l e room_1 s m #[(.int p0), (.int p1)] below meth c T L 0 0 → T.heap = h0 → Fr n0 L → w = F0_25 x0 x1 x2 y3 → own_E p e below Qq T (mkF m 25 #[.val (.int x0), .val (.int x1), .val (.int x2), .unset, .unset] [(.int y3)]) := by
    intro T L x0 x1 x2 y3 X eT N hF
    refine own_st (fun _ => XS.istoreN X.here hx rfl (hb hby at_25) rfl (l' := #[.val (.int x0), .val (.int x1), .val (.int x2), .val (.int y3), .unset]) rfl) ?_
    show own_E p e below Qq T (mkF m 26 #[.val (.int x0), .val (.int x1), .val (.int x2), .val (.int y3), .unset] [])
    refine own_st (fun _ => XS.iloadN X.here hx rfl (hb hby at_26) rfl) ?_
    show own_E p e below Qq T (mkF m 27 #[.val (.int x0), .val (.int x1), .val (.int x2), .val (.int y3), .unset] [(.int x2)])
    refine own_callS X hx hZ hown (hw _ (List.mem_of_getElem? (i := 0) rfl)) (hw _ (List.mem_of_getElem? (i := 1) rfl)) (hw _ (List.mem_of_getElem? (i := 2) rfl)) (hw _ (List.mem_of_getElem? (i := 3) rfl)) (by decide) (W := 0) (argsL := [(.int x2)]) (rest := []) (rm1 l Z a0 hw x2 _ n0) (by decide) (by decide) (by decide) (by decide) rfl (by rw [hml]; rfl) (lenOf pd_1 rfl) rfl (by show 2 * 0 + _ ≤ _; exact Nat.le_of_eq rfl) (hb hby at_27) ?_
    intro T1 L1 v X' hq
    obtain ⟨rfl, N', e'⟩ := hq
    replace eT := e'.trans eT
    replace N := Fr.app N N'
    replace X : Stand p l e room_1 s m #[(.int p0), (.int p1)] below meth c T1 _ 0 0 := X'
    clear X' N' e'
    show own_E p e below Qq T1 (mkF m 30 #[.val (.int x0), .val (.int x1), .val (.int x2), .val (.int y3), .unset] [(.int (F1_0 x2))])
    refine own_st (fun _ => XS.iloadN X.here hx rfl (hb hby at_30) rfl) ?_
    show own_E p e below Qq T1 (mkF m 31 #[.val (.int x0), .val (.int x1), .val (.int x2), .val (.int y3), .unset] [(.int x2), (.int (F1_0 x2))])
    refine own_callS X hx hZ hown (hw _ (List.mem_of_getElem? (i := 4) rfl)) (hw _ (List.mem_of_getElem? (i := 5) rfl)) (hw _ (List.mem_of_getElem? (i := 6) rfl)) (hw _ (List.mem_of_getElem? (i := 7) rfl)) (by decide) (W := 1) (argsL := [(.int x2)]) (rest := [(.int (F1_0 x2))]) (rm2 l Z a0 hw x2 _ n0) (by decide) (by decide) (by decide) (by decide) rfl (by rw [hml]; rfl) (lenOf pd_1 rfl) rfl (by show 2 * 0 + _ ≤ _; exact Nat.le_of_eq rfl) (hb hby at_31) ?_
    intro T2 L2 v X' hq
    obtain ⟨rfl, N', e'⟩ := hq
    replace eT := e'.trans eT
    replace N := Fr.app N N'
    replace X : Stand p l e room_1 s m #[(.int p0), (.int p1)] below meth c T2 _ 0 0 := X'
    clear X' N' e'
    show own_E p e below Qq T2 (mkF m 34 #[.val (.int x0), .val (.int x1), .val (.int x2), .val (.int y3), .unset] [(.int (F2_0 x2)), (.int (F1_0 x2))])
    by_cases q34 : (F1_0 x2) = (F2_0 x2)
    · replace hF := hF.trans (if_pos q34)
      refine own_st (fun _ => XS.icmpNo X.here hx rfl (hb hby at_34) rfl (XT.ii_ne_f q34)) ?_
      show own_E p e below Qq T2 (mkF m 37 #[.val (.int x0), .val (.int x1), .val (.int x2), .val (.int y3), .unset] [])
      refine own_st (fun _ => XS.iconst X.here hx rfl (hb hby at_37)) ?_
      show own_E p e below Qq T2 (mkF m 38 #[.val (.int x0), .val (.int x1), .val (.int x2), .val (.int y3), .unset] [(.int (1 : Int32))])
      refine own_st (fun _ => XS.goto X.here hx rfl (pc0 := 38) (pc' := 42) rfl (hb hby at_38) (by decide) (by decide)) ?_
      show own_E p e below Qq T2 (mkF m 42 #[.val (.int x0), .val (.int x1), .val (.int x2), .val (.int y3), .unset] [(.int (1 : Int32))])
      exact B42 _ _ x0 x1 x2 y3 (1 : Int32) X eT N hF
    · replace hF := hF.trans (if_neg q34)
      refine own_st (fun _ => XS.icmpYes X.here hx rfl (pc0 := 34) (pc' := 41) rfl (hb hby at_34) rfl (XT.ii_ne_t q34) (by decide) (by decide)) ?_
      show own_E p e below Qq T2 (mkF m 41 #[.val (.int x0), .val (.int x1), .val (.int x2), .val (.int y3), .unset] [])
      refine own_st (fun _ => XS.iconst X.here hx rfl (hb hby at_41)) ?_
      show own_E p e below Qq T2 (mkF m 42 #[.val (.int x0), .val (.int x1), .val (.int x2), .val (.int y3), .unset] [(.int (0 : Int32))])
      exact B42 _ _ x0 x1 x2 y3 (0 : Int32) X eT N hF
  show own_E p e below Qq T (mkF m 0 #[.val (.int p0), .val (.int p1), .unset, .unset, .unset] [])
  refine own_st (fun _ => XS.iloadN X.here hx rfl (hb hby at_0) rfl) ?_
  show own_E p e below Qq T (mkF m 1 #[.val (.int p0), .val (.int p1), .unset, .unset, .unset] [(.int p1)])
  refine own_st (fun _ => XS.sipush X.here hx rfl (hb hby at_1)) ?_
  show own_E p e below Qq T (mkF m 4 #[.val (.int p0), .val (.int p1), .unset, .unset, .unset] [(.int (511 : Int32)), (.int p1)])
  refine own_st (fun _ => XS.iand X.here hx rfl (hb hby at_4) rfl) ?_
  show own_E p e below Qq T (mkF m 5 #[.val (.int p0), .val (.int p1), .unset, .unset, .unset] [(.int (p1 &&& (511 : Int32)))])
  refine own_st (fun _ => XS.bipush X.here hx rfl (hb hby at_5)) ?_
  show own_E p e below Qq T (mkF m 7 #[.val (.int p0), .val (.int p1), .unset, .unset, .unset] [(.int (64 : Int32)), (.int (p1 &&& (511 : Int32)))])
  refine own_st (fun _ => XS.isub X.here hx rfl (hb hby at_7) rfl) ?_
  show own_E p e below Qq T (mkF m 8 #[.val (.int p0), .val (.int p1), .unset, .unset, .unset] [(.int ((p1 &&& (511 : Int32)) - (64 : Int32)))])
  refine own_st (fun _ => XS.istoreN X.here hx rfl (hb hby at_8) rfl (l' := #[.val (.int p0), .val (.int p1), .val (.int ((p1 &&& (511 : Int32)) - (64 : Int32))), .unset, .unset]) rfl) ?_
  show own_E p e below Qq T (mkF m 9 #[.val (.int p0), .val (.int p1), .val (.int ((p1 &&& (511 : Int32)) - (64 : Int32))), .unset, .unset] [])
  refine own_st (fun _ => XS.iloadN X.here hx rfl (hb hby at_9) rfl) ?_
  show own_E p e below Qq T (mkF m 10 #[.val (.int p0), .val (.int p1), .val (.int ((p1 &&& (511 : Int32)) - (64 : Int32))), .unset, .unset] [(.int p0)])
  refine own_callS X hx hZ hown (hw _ (List.mem_of_getElem? (i := 0) rfl)) (hw _ (List.mem_of_getElem? (i := 1) rfl)) (hw _ (List.mem_of_getElem? (i := 2) rfl)) (hw _ (List.mem_of_getElem? (i := 3) rfl)) (by decide) (W := 0) (argsL := [(.int p0)]) (rest := []) (rm1 l Z a0 hw p0 _ n0) (by decide) (by decide) (by decide) (by decide) rfl (by rw [hml]; rfl) (lenOf pd_1 rfl) rfl (by show 2 * 0 + _ ≤ _; exact Nat.le_of_eq rfl) (hb hby at_10) ?_
  intro T3 L3 v X' hq
  obtain ⟨rfl, N', e'⟩ := hq
  replace eT := e'.trans eT
  replace N := Fr.app N N'
  replace X : Stand p l e room_1 s m #[(.int p0), (.int p1)] below meth c T3 _ 0 0 := X'
  clear X' N' e'
  show own_E p e below Qq T3 (mkF m 13 #[.val (.int p0), .val (.int p1), .val (.int ((p1 &&& (511 : Int32)) - (64 : Int32))), .unset, .unset] [(.int (F1_0 p0))])
  refine own_st (fun _ => XS.iloadN X.here hx rfl (hb hby at_13) rfl) ?_
  show own_E p e below Qq T3 (mkF m 14 #[.val (.int p0), .val (.int p1), .val (.int ((p1 &&& (511 : Int32)) - (64 : Int32))), .unset, .unset] [(.int p0), (.int (F1_0 p0))])
  refine own_callS X hx hZ hown (hw _ (List.mem_of_getElem? (i := 4) rfl)) (hw _ (List.mem_of_getElem? (i := 5) rfl)) (hw _ (List.mem_of_getElem? (i := 6) rfl)) (hw _ (List.mem_of_getElem? (i := 7) rfl)) (by decide) (W := 1) (argsL := [(.int p0)]) (rest := [(.int (F1_0 p0))]) (rm2 l Z a0 hw p0 _ n0) (by decide) (by decide) (by decide) (by decide) rfl (by rw [hml]; rfl) (lenOf pd_1 rfl) rfl (by show 2 * 0 + _ ≤ _; exact Nat.le_of_eq rfl) (hb hby at_14) ?_
  intro T4 L4 v X' hq
  obtain ⟨rfl, N', e'⟩ := hq
  replace eT := e'.trans eT
  replace N := Fr.app N N'
  replace X : Stand p l e room_1 s m #[(.int p0), (.int p1)] below meth c T4 _ 0 0 := X'
  clear X' N' e'
  show own_E p e below Qq T4 (mkF m 17 #[.val (.int p0), .val (.int p1), .val (.int ((p1 &&& (511 : Int32)) - (64 : Int32))), .unset, .unset] [(.int (F2_0 p0)), (.int (F1_0 p0))])
  by_cases q17 : (F1_0 p0) = (F2_0 p0)
  · replace hF := hF.trans (if_pos q17)
    refine own_st (fun _ => XS.icmpNo X.here hx rfl (hb hby at_17) rfl (XT.ii_ne_f q17)) ?_
    show own_E p e below Qq T4 (mkF m 20 #[.val (.int p0), .val (.int p1), .val (.int ((p1 &&& (511 : Int32)) - (64 : Int32))), .unset, .unset] [])
    refine own_st (fun _ => XS.iconst X.here hx rfl (hb hby at_20)) ?_
    show own_E p e below Qq T4 (mkF m 21 #[.val (.int p0), .val (.int p1), .val (.int ((p1 &&& (511 : Int32)) - (64 : Int32))), .unset, .unset] [(.int (1 : Int32))])
    refine own_st (fun _ => XS.goto X.here hx rfl (pc0 := 21) (pc' := 25) rfl (hb hby at_21) (by decide) (by decide)) ?_
    show own_E p e below Qq T4 (mkF m 25 #[.val (.int p0), .val (.int p1), .val (.int ((p1 &&& (511 : Int32)) - (64 : Int32))), .unset, .unset] [(.int (1 : Int32))])
    exact B25 _ _ p0 p1 ((p1 &&& (511 : Int32)) - (64 : Int32)) (1 : Int32) X eT N hF
  · replace hF := hF.trans (if_neg q17)
    refine own_st (fun _ => XS.icmpYes X.here hx rfl (pc0 := 17) (pc' := 24) rfl (hb hby at_17) rfl (XT.ii_ne_t q17) (by decide) (by decide)) ?_
    show own_E p e below Qq T4 (mkF m 24 #[.val (.int p0), .val (.int p1), .val (.int ((p1 &&& (511 : Int32)) - (64 : Int32))), .unset, .unset] [])
    refine own_st (fun _ => XS.iconst X.here hx rfl (hb hby at_24)) ?_
    show own_E p e below Qq T4 (mkF m 25 #[.val (.int p0), .val (.int p1), .val (.int ((p1 &&& (511 : Int32)) - (64 : Int32))), .unset, .unset] [(.int (0 : Int32))])
    exact B25 _ _ p0 p1 ((p1 &&& (511 : Int32)) - (64 : Int32)) (0 : Int32) X eT N hF
theorem own_F12 (c : Int32) : F1_0 c = F2_0 c := by
  have e : ∀ k : Int32, (c = k) ↔ (c.toInt = k.toInt) := fun k => Int32.toInt_inj.symm
  have t : ∀ k : Int32, (c < k) ↔ (c.toInt < k.toInt) := fun k => Int32.lt_iff_toInt_lt
  have t' : ∀ k : Int32, (k < c) ↔ (k.toInt < c.toInt) := fun k => Int32.lt_iff_toInt_lt
  have d9 : (9 : Int32).toInt = 9 := rfl
  have d10 : (10 : Int32).toInt = 10 := rfl
  have d13 : (13 : Int32).toInt = 13 := rfl
  have d32 : (32 : Int32).toInt = 32 := rfl
  have d127 : (127 : Int32).toInt = 127 := rfl
  have d160 : (160 : Int32).toInt = 160 := rfl
  have d255 : (255 : Int32).toInt = 255 := rfl
  have d0 : (0 : Int32).toInt = 0 := rfl
  have r1 : F1_0 c = if c.toInt = 9 ∨ c.toInt = 10 ∨ c.toInt = 13 ∨ (32 ≤ c.toInt ∧ c.toInt < 127) ∨ (160 ≤ c.toInt ∧ c.toInt ≤ 255) then 1 else 0 := by
    simp only [F1_0, F1_44, F1_30, F1_48, e, t, t', d9, d10, d13, d32, d127, d160, d255]
    repeat' split
    all_goals first | rfl | (exfalso; omega)
  have r3 : F3_0 c = if c.toInt < 32 ∨ (127 ≤ c.toInt ∧ c.toInt < 160) then 1 else 0 := by
    simp only [F3_0, F3_19, F3_23, e, t, t', d32, d127, d160]
    repeat' split
    all_goals first | rfl | (exfalso; omega)
  have r2 : F2_0 c = if c.toInt = 9 ∨ c.toInt = 10 ∨ c.toInt = 13 ∨ (32 ≤ c.toInt ∧ c.toInt < 127) ∨ (160 ≤ c.toInt ∧ c.toInt ≤ 255) then 1 else 0 := by
    have z1 : ¬ ((1 : Int32) = 0) := by decide
    have z0 : ((0 : Int32) = 0) := rfl
    by_cases q : c.toInt < 32 ∨ (127 ≤ c.toInt ∧ c.toInt < 160)
    · rw [if_pos q] at r3
      simp only [F2_0, F2_15, F2_16, F2_50, r3, e, t, t', d9, d10, d13, d0, d255, if_neg z1, if_pos z0]
      repeat' split
      all_goals first | rfl | (exfalso; omega)
    · rw [if_neg q] at r3
      simp only [F2_0, F2_15, F2_16, F2_50, r3, e, t, t', d9, d10, d13, d0, d255, if_neg z1, if_pos z0]
      repeat' split
      all_goals first | rfl | (exfalso; omega) | (simp at *; done) | (simp at *; omega)
  rw [r1, r2]
theorem own_law (p0 p1 : Int32) : F0_0 p0 p1 = 1 := by
  rw [F0_0, if_pos (own_F12 p0), F0_25, if_pos (own_F12 _)]
  rfl
set_option maxRecDepth 65536 in
set_option maxHeartbeats 40000000 in
theorem comes_1 {Post : Tables → Env → Array Value → State → Outcome → State → Prop} (hpost : ∀ tb e args s v u, (limb_1_1.after args s (.returned v) u = true ∧ limb_1_2.after args s (.returned v) u = true ∧ True) → FrameEnd s (.returned v) u (Jvm.fieldLocs frame_1_writes args s ++ Jvm.arrayLocs frame_1_arrays args s ++ Jvm.staticLocs frame_1_statics s) 0 0 → Post tb e args s (.returned v) u) :
    ArmFor flags0 classFile x code maxLocals ret World_1 tables_1 room_1 Calls_1 rest_1 Pre_1 Post := by
  intro l hfl _ _ p e ha hc hk s m args below hf hA hF happ hP
  obtain ⟨hcalls, hrest, hpre⟩ := hP
  obtain ⟨-, -, -, hnamed, -, -, -, hat⟩ := (Spec.applies_iff hf).mp happ
  obtain ⟨hg, hn⟩ := and_e (Cond.before_iff.mp (show (Jvm.Cond.and given_1 narrow_1).before args s = true from hpre))
  obtain ⟨g0, hg⟩ := and_e hg
  obtain ⟨w0, w1, rfl⟩ : ∃ w0 w1 : Value, args = #[w0, w1] := by
    have hs : args.size = 2 := by simpa [Cond.value, given_1] using g0
    obtain ⟨L⟩ := args
    match L, hs with
    | [w0, w1], _ => exact ⟨w0, w1, rfl⟩
  have hw := fun d (hd : d ∈ tables_1) => atoms_spec (ws := Jvm.Cond.code x code maxLocals ret :: tables_1) hat d (List.mem_cons_of_mem _ hd)
  obtain ⟨g1, hg⟩ := and_e hg
  have g2 := hg
  obtain ⟨i0, e0⟩ := is_v g1
  obtain rfl : w0 = (.int i0) := Option.some.inj e0
  obtain ⟨i1, e1⟩ := is_v g2
  obtain rfl : w1 = (.int i1) := Option.some.inj e1
  obtain ⟨n, o, h1, h2, h3, _, L, rfl, ⟨rfl, N, _⟩, hq⟩ := rm0 l s _ hw i0 i1 s.heap s.heap.size (Nat.le_refl _) tables_1 p e ha hc hk s m _ below hf ((Spec.applies_iff_loose hf).mp happ).1 ⟨rfl, State.Warmed39.refl s, rfl⟩ trivial
  refine ⟨n, _, h1, h2, h3, hpost _ _ _ _ _ _ ⟨Cond.after_iff.mpr rfl, Cond.after_iff.mpr (eq_i res_at (Term.int_eval (1)) (by rw [own_law i0 i1]) rfl), trivial⟩ ⟨hq.1, hq.2.1, (hq.2.2.sift fun y hy => Or.inr (N y hy)).mono (by decide) (by decide)⟩⟩
theorem main_1_1 : Claimed_1_1 := comes_1 fun _ _ _ _ _ _ h hF => ⟨h.1, hF⟩
theorem main_1_2 : Claimed_1_2 := comes_1 fun _ _ _ _ _ _ h hF => ⟨h.2.1, hF⟩
end Jvm.Pilot.@@N@@
namespace Jvm.Pilot.@@N@@
open Jvm Jvm.ClassFile Sem Op Lib Jvm.Free Jvm.Stand Jvm.Pilot.@@N@@.Jvm.D
/-! MADE BY PROGRAM (witnessworld.py) out of the Statement's table words and the real class files: 9 classes; the members and pool entries that the words name. The judged class is class 1, her method 3. -/
namespace start1
open Jvm.ClassFile
def u (s : String) : CpInfo := .utf8 (stringToUtf16 s)
/-- a pool by its gaps: so many unusable entries, then the entry; so many at the end -/
def gap : Nat → List CpInfo → List CpInfo
  | 0, r => r
  | n + 1, r => .unusable :: gap n r
def poolList (es : List (Nat × CpInfo)) (last : Nat) : List CpInfo := es.foldr (fun e r => gap e.1 (e.2 :: r)) (gap last [])
def pool (es : List (Nat × CpInfo)) (last : Nat) : Array CpInfo := ⟨poolList es last⟩
def fileOf (pool : Array CpInfo) (this : Nat) (attrs : Array Attribute := #[]) (ms : Array MethodInfo := #[]) (fl : Nat := 33) (sup : Nat := 0) (ifs : Array Nat := #[]) (fds : Array FieldInfo := #[]) : ClassFile where
  minorVersion := 0
  majorVersion := 65
  constantPool := pool
  accessFlags := fl
  thisClass := this
  superClass := sup
  interfaces := ifs
  fields := fds
  methods := ms
  attributes := attrs
def plain (name : String) (sup : Option ClassId) : Class where
  name := name
  kind := .ordinary
  loader := none
  accessFlags := 33
  super := sup
  interfaces := #[]
  cf := none
  fields := #[]
  methods := #[]
  instanceTypes := #[]
  staticTypes := #[]
  resolved := #[]
  callSites := []
  init := .initialized
  statics := none
  mirror := none

def pool0 : Array CpInfo := pool [(5, u "<init>"), (0, u "()V"), (1, .class_ 10), (1, u "java/lang/Object")] 113

def k0m0 : Method := { name := "<init>", desc := "()V", sig := { parameters := [], returnType := none }, accessFlags := 1, code := none }
/-- java/lang/Object -/
def k0 : Class := { plain "java/lang/Object" none with
  accessFlags := 33
  interfaces := #[]
  cf := some (fileOf pool0 8 #[] #[{ accessFlags := 1, nameIndex := 5, descriptorIndex := 6, attributes := #[] }] 33 0 #[] #[])
  fields := #[]
  methods := #[k0m0]
  instanceTypes := #[]
  staticTypes := #[]
  resolved := Array.replicate 124 none
  statics := none }

def pool1 : Array CpInfo := pool [(2, .class_ 4), (1, u "java/lang/Object"), (0, u "<init>"), (0, u "()V"), (0, .methodref 8 9), (0, .class_ 10), (0, .nameAndType 11 12), (0, u "com/example/kinglet/kinglet/HtmlSyntaxIsSgmlCharacterPinLaw"), (0, u "isControl"), (0, u "(I)Z"), (0, .methodref 14 15), (0, .class_ 16), (0, .nameAndType 17 12), (0, u "com/example/kinglet/kinglet/HtmlSyntax"), (0, u "isSgmlCharacter"), (0, .methodref 8 19), (0, .nameAndType 20 12), (0, u "ref"), (3, u "law"), (0, u "(II)Z")] 2

def k1m0 : Method := { name := "<init>", desc := "()V", sig := { parameters := [], returnType := none }, accessFlags := 2, code := none }
def k1c1 : Code := { maxStack := 2, maxLocals := 1, code := method_2_code, exceptionTable := #[], attributes := #[] }
def k1m1 : Method := { name := "isControl", desc := "(I)Z", sig := { parameters := [.int], returnType := some .boolean }, accessFlags := 10, code := some k1c1 }
def k1c2 : Code := { maxStack := 2, maxLocals := 2, code := method_3_code, exceptionTable := #[], attributes := #[] }
def k1m2 : Method := { name := "ref", desc := "(I)Z", sig := { parameters := [.int], returnType := some .boolean }, accessFlags := 10, code := some k1c2 }
def k1c3 : Code := { maxStack := 2, maxLocals := 5, code := code, exceptionTable := #[], attributes := #[] }
def k1m3 : Method := { name := "law", desc := "(II)Z", sig := { parameters := [.int, .int], returnType := some .boolean }, accessFlags := 9, code := some k1c3 }
/-- com/example/kinglet/kinglet/HtmlSyntaxIsSgmlCharacterPinLaw -/
def k1 : Class := { plain "com/example/kinglet/kinglet/HtmlSyntaxIsSgmlCharacterPinLaw" (some 0) with
  accessFlags := 49
  interfaces := #[]
  cf := some (fileOf pool1 8 #[] #[{ accessFlags := 2, nameIndex := 5, descriptorIndex := 6, attributes := #[] }, { accessFlags := 10, nameIndex := 11, descriptorIndex := 12, attributes := #[] }, { accessFlags := 10, nameIndex := 20, descriptorIndex := 12, attributes := #[] }, { accessFlags := 9, nameIndex := 24, descriptorIndex := 25, attributes := #[] }] 49 2 #[] #[])
  fields := #[]
  methods := #[k1m0, k1m1, k1m2, k1m3]
  instanceTypes := #[]
  staticTypes := #[]
  resolved := Array.replicate 28 none
  statics := none }

def pool2 : Array CpInfo := pool [(2, .class_ 4), (1, u "java/lang/Object"), (0, u "<init>"), (0, u "()V"), (1, .class_ 10), (1, u "com/example/kinglet/kinglet/HtmlSyntax"), (1, u "(I)Z"), (89, u "NAMELEN"), (0, u "I"), (2, u "LITLEN"), (1, u "ATTSPLEN"), (1, u "PILEN"), (0, u "TAGLVL"), (1, u "GRPLVL"), (1, u "GRPCNT"), (1, u "ATTCNT"), (1, u "NORMSEP"), (1, u "APPLICATION_INFO"), (0, u "Ljava/lang/String;"), (2, u "NO_CHARACTER"), (1, u "NOT_A_CHARACTER"), (3, u "isSgmlCharacter")] 12

def k2m0 : Method := { name := "<init>", desc := "()V", sig := { parameters := [], returnType := none }, accessFlags := 2, code := none }
def k2c1 : Code := { maxStack := 2, maxLocals := 1, code := prog_53_method_2_code, exceptionTable := #[], attributes := #[] }
def k2m1 : Method := { name := "isSgmlCharacter", desc := "(I)Z", sig := { parameters := [.int], returnType := some .boolean }, accessFlags := 8, code := some k2c1 }
/-- com/example/kinglet/kinglet/HtmlSyntax -/
def k2 : Class := { plain "com/example/kinglet/kinglet/HtmlSyntax" (some 0) with
  accessFlags := 32
  interfaces := #[]
  cf := some (fileOf pool2 8 #[] #[{ accessFlags := 2, nameIndex := 5, descriptorIndex := 6, attributes := #[] }, { accessFlags := 8, nameIndex := 131, descriptorIndex := 12, attributes := #[] }] 32 2 #[] #[{ accessFlags := 24, nameIndex := 102, descriptorIndex := 103, attributes := #[] }, { accessFlags := 24, nameIndex := 106, descriptorIndex := 103, attributes := #[] }, { accessFlags := 24, nameIndex := 108, descriptorIndex := 103, attributes := #[] }, { accessFlags := 24, nameIndex := 110, descriptorIndex := 103, attributes := #[] }, { accessFlags := 24, nameIndex := 111, descriptorIndex := 103, attributes := #[] }, { accessFlags := 24, nameIndex := 113, descriptorIndex := 103, attributes := #[] }, { accessFlags := 24, nameIndex := 115, descriptorIndex := 103, attributes := #[] }, { accessFlags := 24, nameIndex := 117, descriptorIndex := 103, attributes := #[] }, { accessFlags := 24, nameIndex := 119, descriptorIndex := 103, attributes := #[] }, { accessFlags := 24, nameIndex := 121, descriptorIndex := 122, attributes := #[] }, { accessFlags := 24, nameIndex := 125, descriptorIndex := 103, attributes := #[] }, { accessFlags := 24, nameIndex := 127, descriptorIndex := 103, attributes := #[] }])
  fields := #[{ name := "NAMELEN", type := .int, accessFlags := 24, slot := 0, constantValue := 0 }, { name := "LITLEN", type := .int, accessFlags := 24, slot := 1, constantValue := 0 }, { name := "ATTSPLEN", type := .int, accessFlags := 24, slot := 2, constantValue := 0 }, { name := "PILEN", type := .int, accessFlags := 24, slot := 3, constantValue := 0 }, { name := "TAGLVL", type := .int, accessFlags := 24, slot := 4, constantValue := 0 }, { name := "GRPLVL", type := .int, accessFlags := 24, slot := 5, constantValue := 0 }, { name := "GRPCNT", type := .int, accessFlags := 24, slot := 6, constantValue := 0 }, { name := "ATTCNT", type := .int, accessFlags := 24, slot := 7, constantValue := 0 }, { name := "NORMSEP", type := .int, accessFlags := 24, slot := 8, constantValue := 0 }, { name := "APPLICATION_INFO", type := (.object "java/lang/String"), accessFlags := 24, slot := 9, constantValue := 0 }, { name := "NO_CHARACTER", type := .int, accessFlags := 24, slot := 10, constantValue := 0 }, { name := "NOT_A_CHARACTER", type := .int, accessFlags := 24, slot := 11, constantValue := 0 }]
  methods := #[k2m0, k2m1]
  instanceTypes := #[]
  staticTypes := #[.int, .int, .int, .int, .int, .int, .int, .int, .int, (.object "java/lang/String"), .int, .int]
  resolved := Array.replicate 144 none
  statics := none }

def pool3 : Array CpInfo := pool [(1, u "java/lang/Cloneable"), (0, .class_ 1), (0, u "java/lang/Object"), (0, .class_ 3)] 3

/-- java/lang/Cloneable -/
def k3 : Class := { plain "java/lang/Cloneable" (some 0) with
  accessFlags := 1537
  interfaces := #[]
  cf := some (fileOf pool3 2 #[] #[] 1537 4 #[] #[])
  fields := #[]
  methods := #[]
  instanceTypes := #[]
  staticTypes := #[]
  resolved := Array.replicate 8 none
  statics := none }

def pool4 : Array CpInfo := pool [(1, u "java/io/Serializable"), (0, .class_ 1), (0, u "java/lang/Object"), (0, .class_ 3)] 3

/-- java/io/Serializable -/
def k4 : Class := { plain "java/io/Serializable" (some 0) with
  accessFlags := 1537
  interfaces := #[]
  cf := some (fileOf pool4 2 #[] #[] 1537 4 #[] #[])
  fields := #[]
  methods := #[]
  instanceTypes := #[]
  staticTypes := #[]
  resolved := Array.replicate 8 none
  statics := none }

/-- the primitive byte -/
def k5 : Class := { plain "byte" none with kind := .primitive 'B', accessFlags := 0x411 }
/-- [B -/
def k6 : Class := { plain "[B" (some 0) with kind := .array 5 .byte, interfaces := #[3, 4], accessFlags := 1041 }

/-- the primitive int -/
def k7 : Class := { plain "int" none with kind := .primitive 'I', accessFlags := 0x411 }
/-- [I -/
def k8 : Class := { plain "[I" (some 0) with kind := .array 7 .int, interfaces := #[3, 4], accessFlags := 1041 }

def heap : Heap := #[]
def classes : Array Class := #[k0, k1, k2, k3, k4, k5, k6, k7, k8]
def interned : List (Array UInt16 × Addr) := []
def slotsUsed : Nat := 0
def theMethod : MethodId := ⟨1, 3⟩
def args0 : Array Value := #[.int 5, .int 5]
def aboutOver (below : List Frame) : State where
  vm := { classes := classes, interned := interned.toArray }
  heap := heap
  slotsUsed := slotsUsed
  threads := #[{ frames := .invoking theMethod args0 :: below }]
def below0 : List Frame := [.native { method := ⟨0, 0⟩, args := #[] }]
def about1 : State := aboutOver below0
def p0 : Program := .bare "" "" ""
def e0 : Env := launch0.env 0 0 0
theorem w_frames : about1.frames = Frame.invoking theMethod args0 :: below0 := rfl
set_option maxRecDepth 65536 in
theorem w_args : argsFit about1.vm theMethod args0 = true := by decide +kernel
set_option maxRecDepth 65536 in
theorem w_heap : heapFits about1 = true := by decide +kernel
set_option maxRecDepth 65536 in
theorem w_runnable : about1.curStatus? = some .runnable := by decide +kernel
set_option maxRecDepth 65536 in
theorem w_alone : about1.alone = true := by decide +kernel
set_option maxRecDepth 65536 in
theorem w_named : about1.methodNamed? x = some theMethod := by decide +kernel
set_option maxRecDepth 65536 in
theorem w_hears : about1.hears theMethod below0 = true := by decide +kernel
set_option maxRecDepth 65536 in
theorem w_ripe : about1.ripe theMethod args0 below0 = true := by decide +kernel
theorem w_running : about1.status = .running := rfl
set_option maxRecDepth 65536 in
theorem w_room : about1.hasRoom e0.platform room_1 = true :=
  launch0.hasRoom_least _ room_1 (by decide +kernel) (by decide +kernel) (by decide +kernel) (by decide +kernel) (by decide +kernel) (by decide +kernel)
theorem allAtoms_all (ts : List Jvm.Cond) (a : Array Jvm.Value) (st : Jvm.State) : (allAtoms ts).before a st = ts.all (fun c => c.before a st) := by
  induction ts with
  | nil => rfl
  | cons c t ih =>
    show (Jvm.Cond.and c (allAtoms t)).before a st = _
    rw [Jvm.Cond.before_and, ih, List.all_cons]
def words1 : List Jvm.Cond := Jvm.Cond.code x code maxLocals ret :: tables_1
/-- a 'code' word, met by the world's own term for the bytes: nothing is compared byte by byte -/
theorem code_word {y : MethodName} {bytes : ByteArray} {mx : Nat} {rt : Option FieldType} {a : Array Value} {s : State} {m : MethodId} {meth : Method} {c : Code} (h1 : s.methodNamed? y = some m) (h2 : s.vm.method? m = some meth) (h3 : meth.code = some c) (h4 : c.code = bytes)
    (h5 : (c.maxLocals == mx && c.exceptionTable.isEmpty && decide (c.maxStack ≤ mostOperands) && decide (meth.sig.returnType = rt) && !meth.locks && decide (parseMethodDescriptor y.desc = some meth.sig)) = true) : (Jvm.Cond.code y bytes mx rt).before a s = true := by
  simp only [Bool.and_eq_true, beq_iff_eq, Bool.not_eq_true', decide_eq_true_eq] at h5
  obtain ⟨⟨⟨⟨⟨g1, g2⟩, g3⟩, g4⟩, g5⟩, g6⟩ := h5
  simp [Cond.before, Cond.holds, Cond.value, h1, h2, h3, h4, g1, g2, g3, g4, g5, g6]
def isCode : Jvm.Cond → Bool
  | .code _ _ _ _ => true
  | _ => false
theorem all_split {L : List Jvm.Cond} {P : Jvm.Cond → Bool} (h1 : L.all (fun c => isCode c || P c) = true) (h2 : ∀ c ∈ L.filter isCode, P c = true) : L.all P = true := by
  refine List.all_eq_true.mpr fun c hc => ?_
  have h := List.all_eq_true.mp h1 c hc
  rcases Bool.eq_false_or_eq_true (isCode c) with hi | hi
  · exact h2 c (List.mem_filter.mpr ⟨hc, hi⟩)
  · simpa [hi] using h
set_option maxRecDepth 65536 in
theorem w_c0 : (Jvm.Cond.code x code maxLocals ret).before args0 about1 = true := code_word (m := ⟨1, 3⟩) (meth := k1m3) (c := k1c3) (by decide +kernel) rfl rfl rfl (by decide +kernel)
set_option maxRecDepth 65536 in
theorem w_c1 : (Jvm.Cond.code ({ cls := "com/example/kinglet/kinglet/HtmlSyntax", name := "isSgmlCharacter", desc := "(I)Z" } : Jvm.MethodName) prog_53_method_2_code (1 : Nat) (Option.some Jvm.ClassFile.FieldType.boolean)).before args0 about1 = true := code_word (m := ⟨2, 1⟩) (meth := k2m1) (c := k2c1) (by decide +kernel) rfl rfl rfl (by decide +kernel)
set_option maxRecDepth 65536 in
theorem w_c2 : (Jvm.Cond.code ({ cls := "com/example/kinglet/kinglet/HtmlSyntaxIsSgmlCharacterPinLaw", name := "ref", desc := "(I)Z" } : Jvm.MethodName) method_3_code (2 : Nat) (Option.some Jvm.ClassFile.FieldType.boolean)).before args0 about1 = true := code_word (m := ⟨1, 2⟩) (meth := k1m2) (c := k1c2) (by decide +kernel) rfl rfl rfl (by decide +kernel)
set_option maxRecDepth 65536 in
theorem w_c3 : (Jvm.Cond.code ({ cls := "com/example/kinglet/kinglet/HtmlSyntaxIsSgmlCharacterPinLaw", name := "isControl", desc := "(I)Z" } : Jvm.MethodName) method_2_code (1 : Nat) (Option.some Jvm.ClassFile.FieldType.boolean)).before args0 about1 = true := code_word (m := ⟨1, 1⟩) (meth := k1m1) (c := k1c1) (by decide +kernel) rfl rfl rfl (by decide +kernel)
def codes1 : List Jvm.Cond := [Jvm.Cond.code x code maxLocals ret, Jvm.Cond.code ({ cls := "com/example/kinglet/kinglet/HtmlSyntax", name := "isSgmlCharacter", desc := "(I)Z" } : Jvm.MethodName) prog_53_method_2_code (1 : Nat) (Option.some Jvm.ClassFile.FieldType.boolean), Jvm.Cond.code ({ cls := "com/example/kinglet/kinglet/HtmlSyntaxIsSgmlCharacterPinLaw", name := "ref", desc := "(I)Z" } : Jvm.MethodName) method_3_code (2 : Nat) (Option.some Jvm.ClassFile.FieldType.boolean), Jvm.Cond.code ({ cls := "com/example/kinglet/kinglet/HtmlSyntaxIsSgmlCharacterPinLaw", name := "isControl", desc := "(I)Z" } : Jvm.MethodName) method_2_code (1 : Nat) (Option.some Jvm.ClassFile.FieldType.boolean)]
set_option maxRecDepth 65536 in
theorem codes_eq : words1.filter isCode = codes1 := rfl
theorem w_codes : ∀ c ∈ words1.filter isCode, c.before args0 about1 = true := by
  rw [codes_eq]
  intro c hc
  simp only [codes1, List.mem_cons, List.not_mem_nil, or_false] at hc
  rcases hc with rfl | rfl | rfl | rfl
  · exact w_c0
  · exact w_c1
  · exact w_c2
  · exact w_c3
set_option maxRecDepth 65536 in
theorem w_t1 : words1.all (fun c => isCode c || c.before args0 about1) = true := by decide +kernel
theorem w_tables : (allAtoms (Jvm.Cond.code x code maxLocals ret :: tables_1)).before args0 about1 = true := by
  rw [allAtoms_all]
  show words1.all (fun c => c.before args0 about1) = true
  refine all_split ?_ w_codes
  rw [w_t1]
set_option maxRecDepth 65536 in
theorem w_case : (Jvm.Cond.and given_1 narrow_1).before args0 about1 = true := by decide +kernel
theorem w_applies : (headSpec (Jvm.Cond.code x code maxLocals ret :: tables_1) room_1).applies x e0.platform about1 = true :=
  (Spec.applies_iff w_frames).mpr ⟨w_running, w_runnable, w_alone, w_named, w_hears, w_ripe, w_room, w_tables⟩
theorem atStart : AtStart classFile x code maxLocals ret World_1 tables_1 room_1 Calls_1 rest_1 Pre_1 launch0 p0 e0 about1 theMethod args0 below0 :=
  ⟨lists_1, trivial, launch0.admits_env _ _ _, launch0.least_env, fairChoices_fair.cas, fairChoices_fair.clock, w_frames, w_args, w_heap, w_applies, trivial, trivial, w_case⟩
end start1
theorem witness_1 : WitnessClaimed_1 := ⟨start1.p0, start1.e0, start1.about1, start1.theMethod, start1.args0, start1.below0, start1.atStart⟩
end Jvm.Pilot.@@N@@
