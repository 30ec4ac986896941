import JvmDerived
import JvmDerived.Pilot.@@N@@Statement
import JvmDerived.Pilot.@@N@@Code
set_option linter.unusedVariables false
set_option linter.unusedSimpArgs false
namespace Jvm.RoadKit
open Sem ClassFile Op Lib Jvm.Stand Jvm.Free Jvm.LawKit
section New
variable {p : Program} {l : Launch} {e : Env} {R : Room} {s : State} {m : MethodId} {args : Array Value} {below : List Frame} {meth : Method} {c : Code} {T : State} {locs : List Loc} {cells slots : Nat}
theorem retI (X : Stand p l e R s m args below meth c T locs cells slots) (hx : p.tables.exec = Jvm.exec) {pc : Nat} {Ls : Array Slot} {z : Int32} {rest : List Value} (hret : meth.sig.returnType = some .int) (hd : decode c.code pc = .ok (.ireturn, 1)) {fs : List Frame}
    (hl : ∀ (f : JFrame) (acts : List Action), f.method = m → f.locked = none → f.entered = [] → (doReturn e (T.setTop f) acts (some (.int z))).1 = T.setFrames fs) : Steps p.tables e below (T.setTop (mkF m pc Ls (.int z :: rest))) (T.setFrames fs) := by
  have hm' : T.vm.method? m = some meth := X.method'
  have hn : narrow .int (.int z) = .int z := rfl
  show Steps p.tables e below (T.setTop { method := m, pc := pc, locals := Ls, stack := _ :: rest, locked := none }) _
  jvm_step X.here [X.here.top, hx, hd, hm', hret, hn]
  first | (intro acts; rw [hl _ acts rfl rfl rfl]) | rw [hl _ _ rfl rfl rfl]
  exact Steps.refl _
end New
end Jvm.RoadKit
namespace Jvm.Pilot.@@N@@
open Jvm Jvm.ClassFile Sem Op Lib Jvm.Free Jvm.Stand Jvm.LawKit Jvm.RoadKit Bundle Jvm.Pilot.@@N@@.Jvm.D
section Own
variable {p : Program} {l : Launch} {e : Env} {R : Room} {s : State} {m : MethodId} {args : Array Value} {below : List Frame} {meth : Method} {c : Code} {T : State} {locs : List Loc} {k j : Nat} {Z : State} {a0 : Array Value} {h : Heap}
/-- the run that stands at g goes on to an end as Q says -/
def own_E (p : Program) (e : Env) (below : List Frame) (Q : Outcome → State → Prop) (T : State) (g : JFrame) : Prop :=
  ∃ s₂ o, Steps p.tables e below (T.setTop g) s₂ ∧ s₂.status = .running ∧ Ended s₂ below o ∧ Q o s₂
/-- an end as a contract's Qr says, with so many cells and slots at the most -/
def own_Q (s : State) (Qr : Option Value → Heap → List Loc → Prop) (k j : Nat) (o : Outcome) (U : State) : Prop := ∃ v L, o = .returned v ∧ Qr v U.heap L ∧ FrameEnd s o U L k j
/-- a contract of a method at these arguments and this heap -/
def own_M (l : Launch) (Z : State) (y : MethodName) (bytes : ByteArray) (maxL : Nat) (ret : Option FieldType) (rm : Room) (as' : Array Value) (h : Heap) (Qr : Option Value → Heap → List Loc → Prop) : Prop :=
  ∀ ws : List Jvm.Cond, MetFree l y (head1 (Jvm.Cond.code y bytes maxL ret :: ws) rm) (fun a U => a = as' ∧ Z.Warmed39 U.vm ∧ U.heap = h) (fun _ _ _ _ _ => True) (fun _ U o U' => ∃ v L, o = .returned v ∧ Qr v U'.heap L ∧ FrameEnd U o U' L rm.cells rm.slots)
theorem own_st {Q : Outcome → State → Prop} {T' : State} {g g' : JFrame} (hs : ∀ t, Steps p.tables e below (T'.setTop g') t → Steps p.tables e below (T.setTop g) t) (k : own_E p e below Q T' g') : own_E p e below Q T g := by
  obtain ⟨s₂, o, h1, h2, h3, h4⟩ := k
  exact ⟨s₂, o, hs _ h1, h2, h3, h4⟩
theorem own_sy {Q : Outcome → State → Prop} {T' : State} {g g' : JFrame} (hs : Steps p.tables e below (T.setTop g) (T'.setTop g')) (k : own_E p e below Q T' g') : own_E p e below Q T g := by
  obtain ⟨s₂, o, h1, h2, h3, h4⟩ := k
  exact ⟨s₂, o, hs.trans h1, h2, h3, h4⟩
theorem own_body {y : MethodName} {bytes : ByteArray} {maxL : Nat} {ret : Option FieldType} {rm : Room} {as' : Array Value} {Qr : Option Value → Heap → List Loc → Prop} (hp : plainName y.cls = true)
    (body : ∀ (p : Program) (e : Env) (s : State) (m : MethodId) (below : List Frame) (meth : Method) (c : Code) (T : State), p.tables.exec = Jvm.exec → c.code = bytes → c.maxLocals = maxL → s.vm.findClass y.cls = some m.cls → Z.Warmed39 s.vm → meth.sig.returnType = ret → meth.locks = false → meth.name = y.name →
      Stand p l e rm s m as' below meth c T [] 0 0 → T.heap = h → own_E p e below (own_Q s Qr rm.cells rm.slots) T (entryFrame m as' maxL)) : own_M l Z y bytes maxL ret rm as' h Qr := by
  intro ws
  refine MetFree.of_bodySF (plainFor_of_name hp) hisR ?_
  intro p e s m args below meth c s₁ Bd hml0 hP hK
  obtain ⟨rfl, hZ, hh⟩ := hP
  exact body p e s m below meth c s₁ Bd.exec Bd.bytes hml0 (findClass_of_methodNamed Bd.named) hZ Bd.returns Bd.notSynchronized (name_of_methodNamed Bd.named Bd.method).1 (Stand.of_body Bd) (by rw [← hh, Bd.state]; rfl)
theorem own_retN {Qr : Option Value → Heap → List Loc → Prop} {kk jj pc : Nat} {Ls : Array Slot} {z : Int32} {t : FieldType} {rest : List Value} (X : Stand p l e R s m args below meth c T locs k j) (hx : p.tables.exec = Jvm.exec) (hlk : meth.locks = false) (hret : meth.sig.returnType = some t) (ht : t = .boolean ∨ t = .byte ∨ t = .char ∨ t = .short)
    (hd : decode c.code pc = .ok (.ireturn, 1)) (hk : k ≤ kk) (hj : j ≤ jj) (hq : Qr (some (.int (nar t z))) T.heap locs) : own_E p e below (own_Q s Qr kk jj) T (mkF m pc Ls (.int z :: rest)) := by
  obtain ⟨fs, hr, hrun, hended, hW, hsame⟩ := X.leave (v := some (.int (nar t z))) (fun q => by rw [hret] at q; cases q) hlk
  exact ⟨_, _, retN X hx hret ht hd hr, hrun, hended, _, _, rfl, hq, ⟨_, rfl⟩, hW, hsame.mono hk hj⟩
theorem own_retI {Qr : Option Value → Heap → List Loc → Prop} {kk jj pc : Nat} {Ls : Array Slot} {z : Int32} {rest : List Value} (X : Stand p l e R s m args below meth c T locs k j) (hx : p.tables.exec = Jvm.exec) (hlk : meth.locks = false) (hret : meth.sig.returnType = some .int)
    (hd : decode c.code pc = .ok (.ireturn, 1)) (hk : k ≤ kk) (hj : j ≤ jj) (hq : Qr (some (.int z)) T.heap locs) : own_E p e below (own_Q s Qr kk jj) T (mkF m pc Ls (.int z :: rest)) := by
  obtain ⟨fs, hr, hrun, hended, hW, hsame⟩ := X.leave (v := some (.int z)) (fun q => by rw [hret] at q; cases q) hlk
  exact ⟨_, _, retI X hx hret hd hr, hrun, hended, _, _, rfl, hq, ⟨_, rfl⟩, hW, hsame.mono hk hj⟩
theorem own_retJ {Qr : Option Value → Heap → List Loc → Prop} {kk jj pc : Nat} {Ls : Array Slot} {z : Int64} (X : Stand p l e R s m args below meth c T locs k j) (hx : p.tables.exec = Jvm.exec) (hlk : meth.locks = false) (hret : meth.sig.returnType = some .long)
    (hd : decode c.code pc = .ok (.lreturn, 1)) (hk : k ≤ kk) (hj : j ≤ jj) (hq : Qr (some (.long z)) T.heap locs) : own_E p e below (own_Q s Qr kk jj) T (mkF m pc Ls [.long z]) := by
  obtain ⟨fs, hr, hrun, hended, hW, hsame⟩ := X.leave (v := some (.long z)) (fun q => by rw [hret] at q; cases q) hlk
  exact ⟨_, _, X.lreturnOut hx hret hd hr, hrun, hended, _, _, rfl, hq, ⟨_, rfl⟩, hW, hsame.mono hk hj⟩
theorem own_retV {Qr : Option Value → Heap → List Loc → Prop} {kk jj pc : Nat} {Ls : Array Slot} (X : Stand p l e R s m args below meth c T locs k j) (hx : p.tables.exec = Jvm.exec) (hlk : meth.locks = false) (hret : meth.sig.returnType = none)
    (hd : decode c.code pc = .ok (.return_, 1)) (hk : k ≤ kk) (hj : j ≤ jj) (hq : Qr none T.heap locs) : own_E p e below (own_Q s Qr kk jj) T (mkF m pc Ls []) := by
  obtain ⟨fs, hr, hrun, hended, hW, hsame⟩ := X.leave (v := none) (fun _ => rfl) hlk
  exact ⟨_, _, X.returnOut hx hret hd hr, hrun, hended, _, _, rfl, hq, ⟨_, rfl⟩, hW, hsame.mono hk hj⟩
theorem own_retA {Qr : Option Value → Heap → List Loc → Prop} {kk jj pc : Nat} {Ls : Array Slot} {z : Value} {t : FieldType} {rest : List Value} (X : Stand p l e R s m args below meth c T locs k j) (hx : p.tables.exec = Jvm.exec) (hlk : meth.locks = false) (hret : meth.sig.returnType = some t) (ht : t.isReference = true) (hz : z.isRef = true) (hn : narrow t z = z)
    (hd : decode c.code pc = .ok (.areturn, 1)) (hk : k ≤ kk) (hj : j ≤ jj) (hq : Qr (some z) T.heap locs) : own_E p e below (own_Q s Qr kk jj) T (mkF m pc Ls (z :: rest)) := by
  obtain ⟨fs, hr, hrun, hended, hW, hsame⟩ := X.leave (v := some z) (fun q => by rw [hret] at q; cases q) hlk
  exact ⟨_, _, retOut X hx hret hn (Or.inr (Or.inr (Or.inr (Or.inr ⟨rfl, ht, hz⟩)))) hd hr, hrun, hended, _, _, rfl, hq, ⟨_, rfl⟩, hW, hsame.mono hk hj⟩
theorem own_callS {own : String} {index : Nat} {y : MethodName} {bytes : ByteArray} {maxL W : Nat} {ret : Option FieldType} {rm : Room} {Qr : Option Value → Heap → List Loc → Prop} {Q : Outcome → State → Prop} {g : JFrame} {argsL rest : List Value}
    (X : Stand p l e R s m args below meth c T locs k j) (hx : p.tables.exec = Jvm.exec) (hZ : Z.Warmed39 s.vm) (hown : s.vm.findClass own = some m.cls) (wl : (Cond.methodLink own index y).before a0 Z = true) (wst : (Cond.static y).before a0 Z = true) (wi : (Cond.initialized y.cls).before a0 Z = true) (wc : (Cond.code y bytes maxL ret).before a0 Z = true)
    (hy : y.cls ≠ "java/lang/invoke/MethodHandle" ∧ y.cls ≠ "java/lang/invoke/VarHandle") (hM : own_M l Z y bytes maxL ret rm argsL.toArray T.heap Qr) (hf : rm.frames + 1 ≤ R.frames) (hl : W + (maxL + 11) + rm.locals ≤ R.locals) (hck : k + rm.cells ≤ R.cells) (hcj : j + rm.slots ≤ R.slots)
    (hg : g.method = m) (hsize : g.locals.size = c.maxLocals) (hlen : ∀ sig, parseMethodDescriptor y.desc = some sig → argsL.length = sig.parameters.length) (hstack : g.stack = argsL.reverse ++ rest) (hW : 2 * g.monitorRoom + (rest.map fun v => v.category).sum ≤ W) (hdg : decode c.code g.pc = .ok (.invokestatic index, 3))
    (K : ∀ (T' : State) (L : List Loc) (v : Option Value), Stand p l e R s m args below meth c T' (locs ++ L) (k + rm.cells) (j + rm.slots) → Qr v T'.heap L → own_E p e below Q T' { g with pc := g.pc + 3, stack := v.toList ++ rest }) : own_E p e below Q T g := by
  obtain ⟨v, vm1, ⟨T', L', k', j'⟩, -, X', ⟨Lc, hQ, l', y', z'⟩, st⟩ := Jvm.LawKit.callS X hx (y := y) hown (mvT hZ wl) (mvT hZ wst) (mvT hZ wi) (mvT hZ wc) hy (backOf (W := W) (hM []) hZ wc wi hf hl) hg hsize hlen hstack hW hdg (fun _ _ => ⟨rfl, rfl, hck, hcj⟩)
  dsimp only [Pt.U, Pt.locs, Pt.cells, Pt.slots] at X' l' y' z' st hQ
  subst l' y' z'
  exact own_st st (K _ _ _ X' hQ)
theorem own_tr {P : Heap → Prop} {h h' : Heap} (q : h' = h) (i : P h) : P h' := q ▸ i
theorem own_pop2L {tb : Tables} [Ours tb] {target : State} {g : JFrame} (h : At T m c below) (hx : tb.exec = Jvm.exec) (hg : g.method = m) {x : Int64} {rest : List Value} (hd : decode c.code g.pc = .ok (.pop2, 1)) (hs : g.stack = .long x :: rest)
    (hr : Steps tb e below (T.setTop { g with pc := g.pc + 1, stack := rest }) target) : Steps tb e below (T.setTop g) target := by
  subst hg
  jvm_step h [h.top, hx, hd, hs]
  exact hr
theorem own_callC {own : String} {index : Nat} {y : MethodName} {bytes : ByteArray} {maxL W : Nat} {rm : Room} {Qr : Option Value → Heap → List Loc → Prop} {Q : Outcome → State → Prop} {g : JFrame} {a : Addr} {argsL rest : List Value}
    (X : Stand p l e R s m args below meth c T locs k j) (hx : p.tables.exec = Jvm.exec) (hZ : Z.Warmed39 s.vm) (hy1 : y.name = "<init>") (hown : s.vm.findClass own = some m.cls) (wl : (Cond.methodLink own index y).before a0 Z = true) (wm : (Cond.instanceMethod y).before a0 Z = true) (wi : (Cond.initialized y.cls).before a0 Z = true) (wc : (Cond.code y bytes maxL none).before a0 Z = true)
    (hy : y.cls ≠ "java/lang/invoke/MethodHandle" ∧ y.cls ≠ "java/lang/invoke/VarHandle") (hM : own_M l Z y bytes maxL none rm (.ref a :: argsL).toArray T.heap Qr) (hf : rm.frames + 1 ≤ R.frames) (hl : W + (maxL + 11) + rm.locals ≤ R.locals) (hck : k + rm.cells ≤ R.cells) (hcj : j + rm.slots ≤ R.slots)
    (hg : g.method = m) (hsize : g.locals.size = c.maxLocals) (hlen : ∀ sig, parseMethodDescriptor y.desc = some sig → argsL.length = sig.parameters.length) (hstack : g.stack = argsL.reverse ++ .ref a :: rest) (hW : 2 * g.monitorRoom + (rest.map fun v => v.category).sum ≤ W) (hdg : decode c.code g.pc = .ok (.invokespecial index, 3))
    (K : ∀ (T' : State) (L : List Loc) (v : Option Value), Stand p l e R s m args below meth c T' (locs ++ L) (k + rm.cells) (j + rm.slots) → Qr v T'.heap L → own_E p e below Q T' { g with pc := g.pc + 3, stack := v.toList ++ rest }) : own_E p e below Q T g := by
  obtain ⟨v, vm1, ⟨T', L', k', j'⟩, -, X', ⟨Lc, hQ, l', y', z'⟩, st⟩ := X.specialBack hx (y := y) hy1 hown (mvT hZ wl) (mvT hZ wm) (mvT hZ wc) hy (backOf (W := W) (hM []) hZ wc wi hf hl) hg hsize (Steps.refl _) (a := a) hlen hstack hW hdg (fun _ _ => ⟨rfl, rfl, hck, hcj⟩)
  dsimp only [Pt.U, Pt.locs, Pt.cells, Pt.slots] at X' l' y' z' st hQ
  subst l' y' z'
  exact own_sy st (K _ _ _ X' hQ)
theorem own_callV {own : String} {index : Nat} {y : MethodName} {bytes : ByteArray} {maxL W : Nat} {ret : Option FieldType} {rm : Room} {Qr : Option Value → Heap → List Loc → Prop} {Q : Outcome → State → Prop} {g : JFrame} {a : Addr} {argsL rest : List Value}
    (X : Stand p l e R s m args below meth c T locs k j) (hx : p.tables.exec = Jvm.exec) (hZ : Z.Warmed39 s.vm) (hown : s.vm.findClass own = some m.cls) (wl : (Cond.methodLink own index y).before a0 Z = true) (wd : (Cond.declares y).before a0 Z = true) (wsel : (Cond.selects y.cls y y).before a0 Z = true) (wm : (Cond.instanceMethod y).before a0 Z = true) (wi : (Cond.initialized y.cls).before a0 Z = true) (wc : (Cond.code y bytes maxL ret).before a0 Z = true)
    (hy : y.cls ≠ "java/lang/invoke/MethodHandle" ∧ y.cls ≠ "java/lang/invoke/VarHandle") (E : Exa Z T.heap a y.cls) (hM : own_M l Z y bytes maxL ret rm (.ref a :: argsL).toArray T.heap Qr) (hf : rm.frames + 1 ≤ R.frames) (hl : W + (maxL + 11) + rm.locals ≤ R.locals) (hck : k + rm.cells ≤ R.cells) (hcj : j + rm.slots ≤ R.slots)
    (hg : g.method = m) (hsize : g.locals.size = c.maxLocals) (hlen : ∀ sig, parseMethodDescriptor y.desc = some sig → argsL.length = sig.parameters.length) (hstack : g.stack = argsL.reverse ++ .ref a :: rest) (hW : 2 * g.monitorRoom + (rest.map fun v => v.category).sum ≤ W) (hdg : decode c.code g.pc = .ok (.invokevirtual index, 3))
    (K : ∀ (T' : State) (L : List Loc) (v : Option Value), Stand p l e R s m args below meth c T' (locs ++ L) (k + rm.cells) (j + rm.slots) → Qr v T'.heap L → own_E p e below Q T' { g with pc := g.pc + 3, stack := v.toList ++ rest }) : own_E p e below Q T g := by
  obtain ⟨cB, kB, qa, qb, qc⟩ := isOf (T := T) hZ rfl E
  obtain ⟨v, vm1, ⟨T', L', k', j'⟩, -, X', ⟨Lc, hQ, l', y', z'⟩, st⟩ := X.virtualBack hx (y := y) (z := y) hown (mvT hZ wl) (mvT hZ wd) (notFace_of_selects (args := #[]) (mvT hZ wsel)) (mvT hZ wsel) (mvT hZ wm) hy (backOf (W := W) (hM []) hZ wc wi hf hl) qa qc hg hsize (Steps.refl _) hlen hstack hW hdg (fun _ _ => ⟨rfl, rfl, hck, hcj⟩)
  dsimp only [Pt.U, Pt.locs, Pt.cells, Pt.slots] at X' l' y' z' st hQ
  subst l' y' z'
  exact own_sy st (K _ _ _ X' hQ)
theorem own_sel {y z : MethodName} (h : (Cond.selects z.cls z z).before args s = true) (hc : y.cls = z.cls) (hpriv : s.PrivateAt y) (hinst : (Cond.instanceMethod y).before args s = true) (hy : y.cls ≠ "java/lang/invoke/MethodHandle" ∧ y.cls ≠ "java/lang/invoke/VarHandle") : (Cond.selects y.cls y y).before args s = true := by
  obtain ⟨c2, r2, m2, -, -, q3, -, kP, hkP, hkPi⟩ := Cond.selects_spec h
  exact Stand.selects_self_of_private (by rw [hc]; exact findClass_of_methodNamed q3) hkP hkPi hpriv hinst hy
theorem own_callP {own : String} {index : Nat} {y z : MethodName} {bytes : ByteArray} {maxL W : Nat} {ret : Option FieldType} {rm : Room} {Qr : Option Value → Heap → List Loc → Prop} {Q : Outcome → State → Prop} {g : JFrame} {a : Addr} {argsL rest : List Value}
    (X : Stand p l e R s m args below meth c T locs k j) (hx : p.tables.exec = Jvm.exec) (hZ : Z.Warmed39 s.vm) (hown : s.vm.findClass own = some m.cls) (wl : (Cond.methodLink own index y).before a0 Z = true) (wsel : (Cond.selects z.cls z z).before a0 Z = true) (hc : y.cls = z.cls) (wp : (Cond.privateMethod y).before a0 Z = true) (wm : (Cond.instanceMethod y).before a0 Z = true) (wi : (Cond.initialized y.cls).before a0 Z = true) (wc : (Cond.code y bytes maxL ret).before a0 Z = true)
    (hy : y.cls ≠ "java/lang/invoke/MethodHandle" ∧ y.cls ≠ "java/lang/invoke/VarHandle") (E : Exa Z T.heap a y.cls) (hM : own_M l Z y bytes maxL ret rm (.ref a :: argsL).toArray T.heap Qr) (hf : rm.frames + 1 ≤ R.frames) (hl : W + (maxL + 11) + rm.locals ≤ R.locals) (hck : k + rm.cells ≤ R.cells) (hcj : j + rm.slots ≤ R.slots)
    (hg : g.method = m) (hsize : g.locals.size = c.maxLocals) (hlen : ∀ sig, parseMethodDescriptor y.desc = some sig → argsL.length = sig.parameters.length) (hstack : g.stack = argsL.reverse ++ .ref a :: rest) (hW : 2 * g.monitorRoom + (rest.map fun v => v.category).sum ≤ W) (hdg : decode c.code g.pc = .ok (.invokevirtual index, 3))
    (K : ∀ (T' : State) (L : List Loc) (v : Option Value), Stand p l e R s m args below meth c T' (locs ++ L) (k + rm.cells) (j + rm.slots) → Qr v T'.heap L → own_E p e below Q T' { g with pc := g.pc + 3, stack := v.toList ++ rest }) : own_E p e below Q T g := by
  obtain ⟨cq, q1, q2⟩ := E.cell
  have hpr := Cond.privateMethod_at (mvP hZ wp (args := args))
  obtain ⟨v, vm1, ⟨T', L', k', j'⟩, -, X', ⟨Lc, hQ, l', y', z'⟩, st⟩ := X.privateBack hx (y := y) hown (mvT hZ wl) (mvT hZ wm) (own_sel (z := z) (mvT hZ wsel) hc hpr (mvT hZ wm) hy) hpr (mvT hZ wc) hy (backOf (W := W) (hM []) hZ wc wi hf hl) hg hsize (Steps.refl _) (a := a) q1 q2 hlen hstack hW hdg (fun _ _ => ⟨rfl, rfl, hck, hcj⟩)
  dsimp only [Pt.U, Pt.locs, Pt.cells, Pt.slots] at X' l' y' z' st hQ
  subst l' y' z'
  exact own_sy st (K _ _ _ X' hQ)
end Own
theorem pn_1 : plainName "com/example/kinglet/kinglet/MarkupInput" = true := by first | (simp [plainName, overriddenIn]; done) | decide +kernel
theorem pd_1 : parseMethodDescriptor "(II)I" = some ⟨[.int, .int], some .int⟩ := by decide +kernel
theorem d1_0 : decode prog_73_method_51_code 0 = .ok (.iconst (-1), 1) := by decide +kernel
theorem d1_1 : decode prog_73_method_51_code 1 = .ok (.istore_n 2, 1) := by decide +kernel
theorem d1_2 : decode prog_73_method_51_code 2 = .ok (.iload_n 0, 1) := by decide +kernel
theorem d1_3 : decode prog_73_method_51_code 3 = .ok (.bipush 48, 2) := by decide +kernel
theorem d1_5 : decode prog_73_method_51_code 5 = .ok (.if_icmp .lt 17, 3) := by decide +kernel
theorem d1_8 : decode prog_73_method_51_code 8 = .ok (.iload_n 0, 1) := by decide +kernel
theorem d1_9 : decode prog_73_method_51_code 9 = .ok (.bipush 57, 2) := by decide +kernel
theorem d1_11 : decode prog_73_method_51_code 11 = .ok (.if_icmp .gt 11, 3) := by decide +kernel
theorem d1_14 : decode prog_73_method_51_code 14 = .ok (.iload_n 0, 1) := by decide +kernel
theorem d1_15 : decode prog_73_method_51_code 15 = .ok (.bipush 48, 2) := by decide +kernel
theorem d1_17 : decode prog_73_method_51_code 17 = .ok (.isub, 1) := by decide +kernel
theorem d1_18 : decode prog_73_method_51_code 18 = .ok (.istore_n 2, 1) := by decide +kernel
theorem d1_19 : decode prog_73_method_51_code 19 = .ok (.goto 58, 3) := by decide +kernel
theorem d1_22 : decode prog_73_method_51_code 22 = .ok (.iload_n 1, 1) := by decide +kernel
theorem d1_23 : decode prog_73_method_51_code 23 = .ok (.bipush 16, 2) := by decide +kernel
theorem d1_25 : decode prog_73_method_51_code 25 = .ok (.if_icmp .ne 26, 3) := by decide +kernel
theorem d1_28 : decode prog_73_method_51_code 28 = .ok (.iload_n 0, 1) := by decide +kernel
theorem d1_29 : decode prog_73_method_51_code 29 = .ok (.bipush 97, 2) := by decide +kernel
theorem d1_31 : decode prog_73_method_51_code 31 = .ok (.if_icmp .lt 20, 3) := by decide +kernel
theorem d1_34 : decode prog_73_method_51_code 34 = .ok (.iload_n 0, 1) := by decide +kernel
theorem d1_35 : decode prog_73_method_51_code 35 = .ok (.bipush 102, 2) := by decide +kernel
theorem d1_37 : decode prog_73_method_51_code 37 = .ok (.if_icmp .gt 14, 3) := by decide +kernel
theorem d1_40 : decode prog_73_method_51_code 40 = .ok (.iload_n 0, 1) := by decide +kernel
theorem d1_41 : decode prog_73_method_51_code 41 = .ok (.bipush 97, 2) := by decide +kernel
theorem d1_43 : decode prog_73_method_51_code 43 = .ok (.isub, 1) := by decide +kernel
theorem d1_44 : decode prog_73_method_51_code 44 = .ok (.bipush 10, 2) := by decide +kernel
theorem d1_46 : decode prog_73_method_51_code 46 = .ok (.iadd, 1) := by decide +kernel
theorem d1_47 : decode prog_73_method_51_code 47 = .ok (.istore_n 2, 1) := by decide +kernel
theorem d1_48 : decode prog_73_method_51_code 48 = .ok (.goto 29, 3) := by decide +kernel
theorem d1_51 : decode prog_73_method_51_code 51 = .ok (.iload_n 1, 1) := by decide +kernel
theorem d1_52 : decode prog_73_method_51_code 52 = .ok (.bipush 16, 2) := by decide +kernel
theorem d1_54 : decode prog_73_method_51_code 54 = .ok (.if_icmp .ne 23, 3) := by decide +kernel
theorem d1_57 : decode prog_73_method_51_code 57 = .ok (.iload_n 0, 1) := by decide +kernel
theorem d1_58 : decode prog_73_method_51_code 58 = .ok (.bipush 65, 2) := by decide +kernel
theorem d1_60 : decode prog_73_method_51_code 60 = .ok (.if_icmp .lt 17, 3) := by decide +kernel
theorem d1_63 : decode prog_73_method_51_code 63 = .ok (.iload_n 0, 1) := by decide +kernel
theorem d1_64 : decode prog_73_method_51_code 64 = .ok (.bipush 70, 2) := by decide +kernel
theorem d1_66 : decode prog_73_method_51_code 66 = .ok (.if_icmp .gt 11, 3) := by decide +kernel
theorem d1_69 : decode prog_73_method_51_code 69 = .ok (.iload_n 0, 1) := by decide +kernel
theorem d1_70 : decode prog_73_method_51_code 70 = .ok (.bipush 65, 2) := by decide +kernel
theorem d1_72 : decode prog_73_method_51_code 72 = .ok (.isub, 1) := by decide +kernel
theorem d1_73 : decode prog_73_method_51_code 73 = .ok (.bipush 10, 2) := by decide +kernel
theorem d1_75 : decode prog_73_method_51_code 75 = .ok (.iadd, 1) := by decide +kernel
theorem d1_76 : decode prog_73_method_51_code 76 = .ok (.istore_n 2, 1) := by decide +kernel
theorem d1_77 : decode prog_73_method_51_code 77 = .ok (.iload_n 2, 1) := by decide +kernel
theorem d1_78 : decode prog_73_method_51_code 78 = .ok (.ireturn, 1) := by decide +kernel
theorem ef_1 (m : MethodId) (p0 : Int32) (p1 : Int32) : entryFrame m #[(.int p0), (.int p1)] 3 = (mkF m 0 #[.val (.int p0), .val (.int p1), .unset] []) := by first | (simp [entryFrame, mkF, argsToLocals, Value.category, maxLocals]; done) | rfl
def F1_77 (x0 : Int32) (x1 : Int32) (x2 : Int32) : Int32 := x2
def F1_51 (x0 : Int32) (x1 : Int32) (x2 : Int32) : Int32 := (if x1 = (16 : Int32) then (if x0 < (65 : Int32) then (F1_77 x0 x1 x2) else (if (70 : Int32) < x0 then (F1_77 x0 x1 x2) else (F1_77 x0 x1 ((x0 - (65 : Int32)) + (10 : Int32))))) else (F1_77 x0 x1 x2))
def F1_22 (x0 : Int32) (x1 : Int32) (x2 : Int32) : Int32 := (if x1 = (16 : Int32) then (if x0 < (97 : Int32) then (F1_51 x0 x1 x2) else (if (102 : Int32) < x0 then (F1_51 x0 x1 x2) else (F1_77 x0 x1 ((x0 - (97 : Int32)) + (10 : Int32))))) else (F1_51 x0 x1 x2))
def F1_0 (x0 : Int32) (x1 : Int32) : Int32 := (if x0 < (48 : Int32) then (F1_22 x0 x1 (-1 : Int32)) else (if (57 : Int32) < x0 then (F1_22 x0 x1 (-1 : Int32)) else (F1_77 x0 x1 (x0 - (48 : Int32)))))
set_option maxRecDepth 65536 in
set_option maxHeartbeats 40000000 in
theorem rm1 (l : Launch) (Z : State) (a0 : Array Value) (hw : ∀ d ∈ tables_1, d.before a0 Z = true) (p0 : Int32) (p1 : Int32) (h0 : Heap) (n0 : Nat) :
    own_M l Z (⟨"com/example/kinglet/kinglet/MarkupInput", "digitValue", "(II)I"⟩ : MethodName) prog_73_method_51_code 3 (some .int) ({ frames := 0, cells := 0, slots := 0, locals := 0 } : Room) #[(.int p0), (.int p1)] h0 (fun v h L => v = some (.int (F1_0 p0 p1)) ∧ Fr n0 L ∧ h = h0) := by
  refine own_body pn_1 ?_
  intro p e s m below meth c T hx hby hml hown hZ hret hlk hnm X eT
  have N := Fr.nil n0
  obtain ⟨w, hF⟩ : ∃ w, w = F1_0 p0 p1 := ⟨_, rfl⟩
  try rw [← hF]
  generalize hQ : own_Q s (fun v h L => v = some (.int w) ∧ Fr n0 L ∧ h = h0) ({ frames := 0, cells := 0, slots := 0, locals := 0 } : Room).cells ({ frames := 0, cells := 0, slots := 0, locals := 0 } : Room).slots = Qq
  refine own_st (fun _ k => castTop (ef_1 m p0 p1) k) ?_
  have B77 : ∀ (T : State) (L : List Loc) (x0 : Int32) (x1 : Int32) (x2 : Int32), Stand p l e ({ frames := 0, cells := 0, slots := 0, locals := 0 } : Room) s m #[(.int p0), (.int p1)] below meth c T L 0 0 → T.heap = h0 → Fr n0 L → w = F1_77 x0 x1 x2 → own_E p e below Qq T (mkF m 77 #[.val (.int x0), .val (.int x1), .val (.int x2)] []) := by
    intro T L x0 x1 x2 X eT N hF
    refine own_st (fun _ => XS.iloadN X.here hx rfl (hb hby d1_77) rfl) ?_
    show own_E p e below Qq T (mkF m 78 #[.val (.int x0), .val (.int x1), .val (.int x2)] [(.int x2)])
    rw [← hQ]
    exact own_retI X hx hlk hret (hb hby d1_78) (by decide) (by decide) ⟨by (rw [hF]; try rfl), N, eT⟩
  have B51 : ∀ (T : State) (L : List Loc) (x0 : Int32) (x1 : Int32) (x2 : Int32), Stand p l e ({ frames := 0, cells := 0, slots := 0, locals := 0 } : Room) s m #[(.int p0), (.int p1)] below meth c T L 0 0 → T.heap = h0 → Fr n0 L → w = F1_51 x0 x1 x2 → own_E p e below Qq T (mkF m 51 #[.val (.int x0), .val (.int x1), .val (.int x2)] []) := by
    intro T L x0 x1 x2 X eT N hF
    refine own_st (fun _ => XS.iloadN X.here hx rfl (hb hby d1_51) rfl) ?_
    show own_E p e below Qq T (mkF m 52 #[.val (.int x0), .val (.int x1), .val (.int x2)] [(.int x1)])
    refine own_st (fun _ => XS.bipush X.here hx rfl (hb hby d1_52)) ?_
    show own_E p e below Qq T (mkF m 54 #[.val (.int x0), .val (.int x1), .val (.int x2)] [(.int (16 : Int32)), (.int x1)])
    by_cases q54 : x1 = (16 : Int32)
    · replace hF := hF.trans (if_pos q54)
      refine own_st (fun _ => XS.icmpNo X.here hx rfl (hb hby d1_54) rfl (XT.ii_ne_f q54)) ?_
      show own_E p e below Qq T (mkF m 57 #[.val (.int x0), .val (.int x1), .val (.int x2)] [])
      refine own_st (fun _ => XS.iloadN X.here hx rfl (hb hby d1_57) rfl) ?_
      show own_E p e below Qq T (mkF m 58 #[.val (.int x0), .val (.int x1), .val (.int x2)] [(.int x0)])
      refine own_st (fun _ => XS.bipush X.here hx rfl (hb hby d1_58)) ?_
      show own_E p e below Qq T (mkF m 60 #[.val (.int x0), .val (.int x1), .val (.int x2)] [(.int (65 : Int32)), (.int x0)])
      by_cases q60 : x0 < (65 : Int32)
      · replace hF := hF.trans (if_pos q60)
        refine own_st (fun _ => XS.icmpYes X.here hx rfl (pc0 := 60) (pc' := 77) rfl (hb hby d1_60) rfl (XT.ii_lt_t q60) (by decide) (by decide)) ?_
        show own_E p e below Qq T (mkF m 77 #[.val (.int x0), .val (.int x1), .val (.int x2)] [])
        exact B77 _ _ x0 x1 x2 X eT N hF
      · replace hF := hF.trans (if_neg q60)
        refine own_st (fun _ => XS.icmpNo X.here hx rfl (hb hby d1_60) rfl (XT.ii_lt_f q60)) ?_
        show own_E p e below Qq T (mkF m 63 #[.val (.int x0), .val (.int x1), .val (.int x2)] [])
        refine own_st (fun _ => XS.iloadN X.here hx rfl (hb hby d1_63) rfl) ?_
        show own_E p e below Qq T (mkF m 64 #[.val (.int x0), .val (.int x1), .val (.int x2)] [(.int x0)])
        refine own_st (fun _ => XS.bipush X.here hx rfl (hb hby d1_64)) ?_
        show own_E p e below Qq T (mkF m 66 #[.val (.int x0), .val (.int x1), .val (.int x2)] [(.int (70 : Int32)), (.int x0)])
        by_cases q66 : (70 : Int32) < x0
        · replace hF := hF.trans (if_pos q66)
          refine own_st (fun _ => XS.icmpYes X.here hx rfl (pc0 := 66) (pc' := 77) rfl (hb hby d1_66) rfl (XT.ii_gt_t q66) (by decide) (by decide)) ?_
          show own_E p e below Qq T (mkF m 77 #[.val (.int x0), .val (.int x1), .val (.int x2)] [])
          exact B77 _ _ x0 x1 x2 X eT N hF
        · replace hF := hF.trans (if_neg q66)
          refine own_st (fun _ => XS.icmpNo X.here hx rfl (hb hby d1_66) rfl (XT.ii_gt_f q66)) ?_
          show own_E p e below Qq T (mkF m 69 #[.val (.int x0), .val (.int x1), .val (.int x2)] [])
          refine own_st (fun _ => XS.iloadN X.here hx rfl (hb hby d1_69) rfl) ?_
          show own_E p e below Qq T (mkF m 70 #[.val (.int x0), .val (.int x1), .val (.int x2)] [(.int x0)])
          refine own_st (fun _ => XS.bipush X.here hx rfl (hb hby d1_70)) ?_
          show own_E p e below Qq T (mkF m 72 #[.val (.int x0), .val (.int x1), .val (.int x2)] [(.int (65 : Int32)), (.int x0)])
          refine own_st (fun _ => XS.isub X.here hx rfl (hb hby d1_72) rfl) ?_
          show own_E p e below Qq T (mkF m 73 #[.val (.int x0), .val (.int x1), .val (.int x2)] [(.int (x0 - (65 : Int32)))])
          refine own_st (fun _ => XS.bipush X.here hx rfl (hb hby d1_73)) ?_
          show own_E p e below Qq T (mkF m 75 #[.val (.int x0), .val (.int x1), .val (.int x2)] [(.int (10 : Int32)), (.int (x0 - (65 : Int32)))])
          refine own_st (fun _ => XS.iadd X.here hx rfl (hb hby d1_75) rfl) ?_
          show own_E p e below Qq T (mkF m 76 #[.val (.int x0), .val (.int x1), .val (.int x2)] [(.int ((x0 - (65 : Int32)) + (10 : Int32)))])
          refine own_st (fun _ => XS.istoreN X.here hx rfl (hb hby d1_76) rfl (l' := #[.val (.int x0), .val (.int x1), .val (.int ((x0 - (65 : Int32)) + (10 : Int32)))]) rfl) ?_
          show own_E p e below Qq T (mkF m 77 #[.val (.int x0), .val (.int x1), .val (.int ((x0 - (65 : Int32)) + (10 : Int32)))] [])
          exact B77 _ _ x0 x1 ((x0 - (65 : Int32)) + (10 : Int32)) X eT N hF
    · replace hF := hF.trans (if_neg q54)
      refine own_st (fun _ => XS.icmpYes X.here hx rfl (pc0 := 54) (pc' := 77) rfl (hb hby d1_54) rfl (XT.ii_ne_t q54) (by decide) (by decide)) ?_
      show own_E p e below Qq T (mkF m 77 #[.val (.int x0), .val (.int x1), .val (.int x2)] [])
      exact B77 _ _ x0 x1 x2 X eT N hF
  have B22 : ∀ (T : State) (L : List Loc) (x0 : Int32) (x1 : Int32) (x2 : Int32), Stand p l e ({ frames := 0, cells := 0, slots := 0, locals := 0 } : Room) s m #[(.int p0), (.int p1)] below meth c T L 0 0 → T.heap = h0 → Fr n0 L → w = F1_22 x0 x1 x2 → own_E p e below Qq T (mkF m 22 #[.val (.int x0), .val (.int x1), .val (.int x2)] []) := by
    intro T L x0 x1 x2 X eT N hF
    refine own_st (fun _ => XS.iloadN X.here hx rfl (hb hby d1_22) rfl) ?_
    show own_E p e below Qq T (mkF m 23 #[.val (.int x0), .val (.int x1), .val (.int x2)] [(.int x1)])
    refine own_st (fun _ => XS.bipush X.here hx rfl (hb hby d1_23)) ?_
    show own_E p e below Qq T (mkF m 25 #[.val (.int x0), .val (.int x1), .val (.int x2)] [(.int (16 : Int32)), (.int x1)])
    by_cases q25 : x1 = (16 : Int32)
    · replace hF := hF.trans (if_pos q25)
      refine own_st (fun _ => XS.icmpNo X.here hx rfl (hb hby d1_25) rfl (XT.ii_ne_f q25)) ?_
      show own_E p e below Qq T (mkF m 28 #[.val (.int x0), .val (.int x1), .val (.int x2)] [])
      refine own_st (fun _ => XS.iloadN X.here hx rfl (hb hby d1_28) rfl) ?_
      show own_E p e below Qq T (mkF m 29 #[.val (.int x0), .val (.int x1), .val (.int x2)] [(.int x0)])
      refine own_st (fun _ => XS.bipush X.here hx rfl (hb hby d1_29)) ?_
      show own_E p e below Qq T (mkF m 31 #[.val (.int x0), .val (.int x1), .val (.int x2)] [(.int (97 : Int32)), (.int x0)])
      by_cases q31 : x0 < (97 : Int32)
      · replace hF := hF.trans (if_pos q31)
        refine own_st (fun _ => XS.icmpYes X.here hx rfl (pc0 := 31) (pc' := 51) rfl (hb hby d1_31) rfl (XT.ii_lt_t q31) (by decide) (by decide)) ?_
        show own_E p e below Qq T (mkF m 51 #[.val (.int x0), .val (.int x1), .val (.int x2)] [])
        exact B51 _ _ x0 x1 x2 X eT N hF
      · replace hF := hF.trans (if_neg q31)
        refine own_st (fun _ => XS.icmpNo X.here hx rfl (hb hby d1_31) rfl (XT.ii_lt_f q31)) ?_
        show own_E p e below Qq T (mkF m 34 #[.val (.int x0), .val (.int x1), .val (.int x2)] [])
        refine own_st (fun _ => XS.iloadN X.here hx rfl (hb hby d1_34) rfl) ?_
        show own_E p e below Qq T (mkF m 35 #[.val (.int x0), .val (.int x1), .val (.int x2)] [(.int x0)])
        refine own_st (fun _ => XS.bipush X.here hx rfl (hb hby d1_35)) ?_
        show own_E p e below Qq T (mkF m 37 #[.val (.int x0), .val (.int x1), .val (.int x2)] [(.int (102 : Int32)), (.int x0)])
        by_cases q37 : (102 : Int32) < x0
        · replace hF := hF.trans (if_pos q37)
          refine own_st (fun _ => XS.icmpYes X.here hx rfl (pc0 := 37) (pc' := 51) rfl (hb hby d1_37) rfl (XT.ii_gt_t q37) (by decide) (by decide)) ?_
          show own_E p e below Qq T (mkF m 51 #[.val (.int x0), .val (.int x1), .val (.int x2)] [])
          exact B51 _ _ x0 x1 x2 X eT N hF
        · replace hF := hF.trans (if_neg q37)
          refine own_st (fun _ => XS.icmpNo X.here hx rfl (hb hby d1_37) rfl (XT.ii_gt_f q37)) ?_
          show own_E p e below Qq T (mkF m 40 #[.val (.int x0), .val (.int x1), .val (.int x2)] [])
          refine own_st (fun _ => XS.iloadN X.here hx rfl (hb hby d1_40) rfl) ?_
          show own_E p e below Qq T (mkF m 41 #[.val (.int x0), .val (.int x1), .val (.int x2)] [(.int x0)])
          refine own_st (fun _ => XS.bipush X.here hx rfl (hb hby d1_41)) ?_
          show own_E p e below Qq T (mkF m 43 #[.val (.int x0), .val (.int x1), .val (.int x2)] [(.int (97 : Int32)), (.int x0)])
          refine own_st (fun _ => XS.isub X.here hx rfl (hb hby d1_43) rfl) ?_
          show own_E p e below Qq T (mkF m 44 #[.val (.int x0), .val (.int x1), .val (.int x2)] [(.int (x0 - (97 : Int32)))])
          refine own_st (fun _ => XS.bipush X.here hx rfl (hb hby d1_44)) ?_
          show own_E p e below Qq T (mkF m 46 #[.val (.int x0), .val (.int x1), .val (.int x2)] [(.int (10 : Int32)), (.int (x0 - (97 : Int32)))])
          refine own_st (fun _ => XS.iadd X.here hx rfl (hb hby d1_46) rfl) ?_
          show own_E p e below Qq T (mkF m 47 #[.val (.int x0), .val (.int x1), .val (.int x2)] [(.int ((x0 - (97 : Int32)) + (10 : Int32)))])
          refine own_st (fun _ => XS.istoreN X.here hx rfl (hb hby d1_47) rfl (l' := #[.val (.int x0), .val (.int x1), .val (.int ((x0 - (97 : Int32)) + (10 : Int32)))]) rfl) ?_
          show own_E p e below Qq T (mkF m 48 #[.val (.int x0), .val (.int x1), .val (.int ((x0 - (97 : Int32)) + (10 : Int32)))] [])
          refine own_st (fun _ => XS.goto X.here hx rfl (pc0 := 48) (pc' := 77) rfl (hb hby d1_48) (by decide) (by decide)) ?_
          show own_E p e below Qq T (mkF m 77 #[.val (.int x0), .val (.int x1), .val (.int ((x0 - (97 : Int32)) + (10 : Int32)))] [])
          exact B77 _ _ x0 x1 ((x0 - (97 : Int32)) + (10 : Int32)) X eT N hF
    · replace hF := hF.trans (if_neg q25)
      refine own_st (fun _ => XS.icmpYes X.here hx rfl (pc0 := 25) (pc' := 51) rfl (hb hby d1_25) rfl (XT.ii_ne_t q25) (by decide) (by decide)) ?_
      show own_E p e below Qq T (mkF m 51 #[.val (.int x0), .val (.int x1), .val (.int x2)] [])
      exact B51 _ _ x0 x1 x2 X eT N hF
  show own_E p e below Qq T (mkF m 0 #[.val (.int p0), .val (.int p1), .unset] [])
  refine own_st (fun _ => XS.iconst X.here hx rfl (hb hby d1_0)) ?_
  show own_E p e below Qq T (mkF m 1 #[.val (.int p0), .val (.int p1), .unset] [(.int (-1 : Int32))])
  refine own_st (fun _ => XS.istoreN X.here hx rfl (hb hby d1_1) rfl (l' := #[.val (.int p0), .val (.int p1), .val (.int (-1 : Int32))]) rfl) ?_
  show own_E p e below Qq T (mkF m 2 #[.val (.int p0), .val (.int p1), .val (.int (-1 : Int32))] [])
  refine own_st (fun _ => XS.iloadN X.here hx rfl (hb hby d1_2) rfl) ?_
  show own_E p e below Qq T (mkF m 3 #[.val (.int p0), .val (.int p1), .val (.int (-1 : Int32))] [(.int p0)])
  refine own_st (fun _ => XS.bipush X.here hx rfl (hb hby d1_3)) ?_
  show own_E p e below Qq T (mkF m 5 #[.val (.int p0), .val (.int p1), .val (.int (-1 : Int32))] [(.int (48 : Int32)), (.int p0)])
  by_cases q5 : p0 < (48 : Int32)
  · replace hF := hF.trans (if_pos q5)
    refine own_st (fun _ => XS.icmpYes X.here hx rfl (pc0 := 5) (pc' := 22) rfl (hb hby d1_5) rfl (XT.ii_lt_t q5) (by decide) (by decide)) ?_
    show own_E p e below Qq T (mkF m 22 #[.val (.int p0), .val (.int p1), .val (.int (-1 : Int32))] [])
    exact B22 _ _ p0 p1 (-1 : Int32) X eT N hF
  · replace hF := hF.trans (if_neg q5)
    refine own_st (fun _ => XS.icmpNo X.here hx rfl (hb hby d1_5) rfl (XT.ii_lt_f q5)) ?_
    show own_E p e below Qq T (mkF m 8 #[.val (.int p0), .val (.int p1), .val (.int (-1 : Int32))] [])
    refine own_st (fun _ => XS.iloadN X.here hx rfl (hb hby d1_8) rfl) ?_
    show own_E p e below Qq T (mkF m 9 #[.val (.int p0), .val (.int p1), .val (.int (-1 : Int32))] [(.int p0)])
    refine own_st (fun _ => XS.bipush X.here hx rfl (hb hby d1_9)) ?_
    show own_E p e below Qq T (mkF m 11 #[.val (.int p0), .val (.int p1), .val (.int (-1 : Int32))] [(.int (57 : Int32)), (.int p0)])
    by_cases q11 : (57 : Int32) < p0
    · replace hF := hF.trans (if_pos q11)
      refine own_st (fun _ => XS.icmpYes X.here hx rfl (pc0 := 11) (pc' := 22) rfl (hb hby d1_11) rfl (XT.ii_gt_t q11) (by decide) (by decide)) ?_
      show own_E p e below Qq T (mkF m 22 #[.val (.int p0), .val (.int p1), .val (.int (-1 : Int32))] [])
      exact B22 _ _ p0 p1 (-1 : Int32) X eT N hF
    · replace hF := hF.trans (if_neg q11)
      refine own_st (fun _ => XS.icmpNo X.here hx rfl (hb hby d1_11) rfl (XT.ii_gt_f q11)) ?_
      show own_E p e below Qq T (mkF m 14 #[.val (.int p0), .val (.int p1), .val (.int (-1 : Int32))] [])
      refine own_st (fun _ => XS.iloadN X.here hx rfl (hb hby d1_14) rfl) ?_
      show own_E p e below Qq T (mkF m 15 #[.val (.int p0), .val (.int p1), .val (.int (-1 : Int32))] [(.int p0)])
      refine own_st (fun _ => XS.bipush X.here hx rfl (hb hby d1_15)) ?_
      show own_E p e below Qq T (mkF m 17 #[.val (.int p0), .val (.int p1), .val (.int (-1 : Int32))] [(.int (48 : Int32)), (.int p0)])
      refine own_st (fun _ => XS.isub X.here hx rfl (hb hby d1_17) rfl) ?_
      show own_E p e below Qq T (mkF m 18 #[.val (.int p0), .val (.int p1), .val (.int (-1 : Int32))] [(.int (p0 - (48 : Int32)))])
      refine own_st (fun _ => XS.istoreN X.here hx rfl (hb hby d1_18) rfl (l' := #[.val (.int p0), .val (.int p1), .val (.int (p0 - (48 : Int32)))]) rfl) ?_
      show own_E p e below Qq T (mkF m 19 #[.val (.int p0), .val (.int p1), .val (.int (p0 - (48 : Int32)))] [])
      refine own_st (fun _ => XS.goto X.here hx rfl (pc0 := 19) (pc' := 77) rfl (hb hby d1_19) (by decide) (by decide)) ?_
      show own_E p e below Qq T (mkF m 77 #[.val (.int p0), .val (.int p1), .val (.int (p0 - (48 : Int32)))] [])
      exact B77 _ _ p0 p1 (p0 - (48 : Int32)) X eT N hF
theorem pn_2 : plainName "com/example/kinglet/kinglet/MarkupInputDigitValuePinLaw" = true := by first | (simp [plainName, overriddenIn]; done) | decide +kernel
theorem pd_2 : parseMethodDescriptor "(IZ)I" = some ⟨[.int, .boolean], some .int⟩ := by decide +kernel
theorem d2_0 : decode method_2_code 0 = .ok (.iload_n 0, 1) := by decide +kernel
theorem d2_1 : decode method_2_code 1 = .ok (.bipush 48, 2) := by decide +kernel
theorem d2_3 : decode method_2_code 3 = .ok (.if_icmp .lt 14, 3) := by decide +kernel
theorem d2_6 : decode method_2_code 6 = .ok (.iload_n 0, 1) := by decide +kernel
theorem d2_7 : decode method_2_code 7 = .ok (.bipush 57, 2) := by decide +kernel
theorem d2_9 : decode method_2_code 9 = .ok (.if_icmp .gt 8, 3) := by decide +kernel
theorem d2_12 : decode method_2_code 12 = .ok (.iload_n 0, 1) := by decide +kernel
theorem d2_13 : decode method_2_code 13 = .ok (.bipush 48, 2) := by decide +kernel
theorem d2_15 : decode method_2_code 15 = .ok (.isub, 1) := by decide +kernel
theorem d2_16 : decode method_2_code 16 = .ok (.ireturn, 1) := by decide +kernel
theorem d2_17 : decode method_2_code 17 = .ok (.iload_n 0, 1) := by decide +kernel
theorem d2_18 : decode method_2_code 18 = .ok (.bipush 32, 2) := by decide +kernel
theorem d2_20 : decode method_2_code 20 = .ok (.ior, 1) := by decide +kernel
theorem d2_21 : decode method_2_code 21 = .ok (.istore_n 2, 1) := by decide +kernel
theorem d2_22 : decode method_2_code 22 = .ok (.iload_n 1, 1) := by decide +kernel
theorem d2_23 : decode method_2_code 23 = .ok (.ifCond .eq 23, 3) := by decide +kernel
theorem d2_26 : decode method_2_code 26 = .ok (.iload_n 2, 1) := by decide +kernel
theorem d2_27 : decode method_2_code 27 = .ok (.bipush 97, 2) := by decide +kernel
theorem d2_29 : decode method_2_code 29 = .ok (.if_icmp .lt 17, 3) := by decide +kernel
theorem d2_32 : decode method_2_code 32 = .ok (.iload_n 2, 1) := by decide +kernel
theorem d2_33 : decode method_2_code 33 = .ok (.bipush 102, 2) := by decide +kernel
theorem d2_35 : decode method_2_code 35 = .ok (.if_icmp .gt 11, 3) := by decide +kernel
theorem d2_38 : decode method_2_code 38 = .ok (.iload_n 2, 1) := by decide +kernel
theorem d2_39 : decode method_2_code 39 = .ok (.bipush 97, 2) := by decide +kernel
theorem d2_41 : decode method_2_code 41 = .ok (.isub, 1) := by decide +kernel
theorem d2_42 : decode method_2_code 42 = .ok (.bipush 10, 2) := by decide +kernel
theorem d2_44 : decode method_2_code 44 = .ok (.iadd, 1) := by decide +kernel
theorem d2_45 : decode method_2_code 45 = .ok (.ireturn, 1) := by decide +kernel
theorem d2_46 : decode method_2_code 46 = .ok (.iconst (-1), 1) := by decide +kernel
theorem d2_47 : decode method_2_code 47 = .ok (.ireturn, 1) := by decide +kernel
theorem ef_2 (m : MethodId) (p0 : Int32) (p1 : Int32) : entryFrame m #[(.int p0), (.int p1)] 3 = (mkF m 0 #[.val (.int p0), .val (.int p1), .unset] []) := by first | (simp [entryFrame, mkF, argsToLocals, Value.category, maxLocals]; done) | rfl
def F2_46 (x0 : Int32) (x1 : Int32) (x2 : Int32) : Int32 := (-1 : Int32)
def F2_17 (x0 : Int32) (x1 : Int32) : Int32 := (if x1 = (0 : Int32) then (F2_46 x0 x1 (x0 ||| (32 : Int32))) else (if (x0 ||| (32 : Int32)) < (97 : Int32) then (F2_46 x0 x1 (x0 ||| (32 : Int32))) else (if (102 : Int32) < (x0 ||| (32 : Int32)) then (F2_46 x0 x1 (x0 ||| (32 : Int32))) else (((x0 ||| (32 : Int32)) - (97 : Int32)) + (10 : Int32)))))
def F2_0 (x0 : Int32) (x1 : Int32) : Int32 := (if x0 < (48 : Int32) then (F2_17 x0 x1) else (if (57 : Int32) < x0 then (F2_17 x0 x1) else (x0 - (48 : Int32))))
set_option maxRecDepth 65536 in
set_option maxHeartbeats 40000000 in
theorem rm2 (l : Launch) (Z : State) (a0 : Array Value) (hw : ∀ d ∈ tables_1, d.before a0 Z = true) (p0 : Int32) (p1 : Int32) (h0 : Heap) (n0 : Nat) :
    own_M l Z (⟨"com/example/kinglet/kinglet/MarkupInputDigitValuePinLaw", "expected", "(IZ)I"⟩ : MethodName) method_2_code 3 (some .int) ({ frames := 0, cells := 0, slots := 0, locals := 0 } : Room) #[(.int p0), (.int p1)] h0 (fun v h L => v = some (.int (F2_0 p0 p1)) ∧ Fr n0 L ∧ h = h0) := by
  refine own_body pn_2 ?_
  intro p e s m below meth c T hx hby hml hown hZ hret hlk hnm X eT
  have N := Fr.nil n0
  obtain ⟨w, hF⟩ : ∃ w, w = F2_0 p0 p1 := ⟨_, rfl⟩
  try rw [← hF]
  generalize hQ : own_Q s (fun v h L => v = some (.int w) ∧ Fr n0 L ∧ h = h0) ({ frames := 0, cells := 0, slots := 0, locals := 0 } : Room).cells ({ frames := 0, cells := 0, slots := 0, locals := 0 } : Room).slots = Qq
  refine own_st (fun _ k => castTop (ef_2 m p0 p1) k) ?_
  have B46 : ∀ (T : State) (L : List Loc) (x0 : Int32) (x1 : Int32) (x2 : Int32), Stand p l e ({ frames := 0, cells := 0, slots := 0, locals := 0 } : Room) s m #[(.int p0), (.int p1)] below meth c T L 0 0 → T.heap = h0 → Fr n0 L → w = F2_46 x0 x1 x2 → own_E p e below Qq T (mkF m 46 #[.val (.int x0), .val (.int x1), .val (.int x2)] []) := by
    intro T L x0 x1 x2 X eT N hF
    refine own_st (fun _ => XS.iconst X.here hx rfl (hb hby d2_46)) ?_
    show own_E p e below Qq T (mkF m 47 #[.val (.int x0), .val (.int x1), .val (.int x2)] [(.int (-1 : Int32))])
    rw [← hQ]
    exact own_retI X hx hlk hret (hb hby d2_47) (by decide) (by decide) ⟨by (rw [hF]; try rfl), N, eT⟩
  have B17 : ∀ (T : State) (L : List Loc) (x0 : Int32) (x1 : Int32), Stand p l e ({ frames := 0, cells := 0, slots := 0, locals := 0 } : Room) s m #[(.int p0), (.int p1)] below meth c T L 0 0 → T.heap = h0 → Fr n0 L → w = F2_17 x0 x1 → own_E p e below Qq T (mkF m 17 #[.val (.int x0), .val (.int x1), .unset] []) := by
    intro T L x0 x1 X eT N hF
    refine own_st (fun _ => XS.iloadN X.here hx rfl (hb hby d2_17) rfl) ?_
    show own_E p e below Qq T (mkF m 18 #[.val (.int x0), .val (.int x1), .unset] [(.int x0)])
    refine own_st (fun _ => XS.bipush X.here hx rfl (hb hby d2_18)) ?_
    show own_E p e below Qq T (mkF m 20 #[.val (.int x0), .val (.int x1), .unset] [(.int (32 : Int32)), (.int x0)])
    refine own_st (fun _ => XT.ior X.here hx rfl (hb hby d2_20) rfl) ?_
    show own_E p e below Qq T (mkF m 21 #[.val (.int x0), .val (.int x1), .unset] [(.int (x0 ||| (32 : Int32)))])
    refine own_st (fun _ => XS.istoreN X.here hx rfl (hb hby d2_21) rfl (l' := #[.val (.int x0), .val (.int x1), .val (.int (x0 ||| (32 : Int32)))]) rfl) ?_
    show own_E p e below Qq T (mkF m 22 #[.val (.int x0), .val (.int x1), .val (.int (x0 ||| (32 : Int32)))] [])
    refine own_st (fun _ => XS.iloadN X.here hx rfl (hb hby d2_22) rfl) ?_
    show own_E p e below Qq T (mkF m 23 #[.val (.int x0), .val (.int x1), .val (.int (x0 ||| (32 : Int32)))] [(.int x1)])
    by_cases q23 : x1 = (0 : Int32)
    · replace hF := hF.trans (if_pos q23)
      refine own_st (fun _ => XS.ifYes X.here hx rfl (pc0 := 23) (pc' := 46) rfl (hb hby d2_23) rfl (XT.i0_eq_t q23) (by decide) (by decide)) ?_
      show own_E p e below Qq T (mkF m 46 #[.val (.int x0), .val (.int x1), .val (.int (x0 ||| (32 : Int32)))] [])
      exact B46 _ _ x0 x1 (x0 ||| (32 : Int32)) X eT N hF
    · replace hF := hF.trans (if_neg q23)
      refine own_st (fun _ => XS.ifNo X.here hx rfl (hb hby d2_23) rfl (XT.i0_eq_f q23)) ?_
      show own_E p e below Qq T (mkF m 26 #[.val (.int x0), .val (.int x1), .val (.int (x0 ||| (32 : Int32)))] [])
      refine own_st (fun _ => XS.iloadN X.here hx rfl (hb hby d2_26) rfl) ?_
      show own_E p e below Qq T (mkF m 27 #[.val (.int x0), .val (.int x1), .val (.int (x0 ||| (32 : Int32)))] [(.int (x0 ||| (32 : Int32)))])
      refine own_st (fun _ => XS.bipush X.here hx rfl (hb hby d2_27)) ?_
      show own_E p e below Qq T (mkF m 29 #[.val (.int x0), .val (.int x1), .val (.int (x0 ||| (32 : Int32)))] [(.int (97 : Int32)), (.int (x0 ||| (32 : Int32)))])
      by_cases q29 : (x0 ||| (32 : Int32)) < (97 : Int32)
      · replace hF := hF.trans (if_pos q29)
        refine own_st (fun _ => XS.icmpYes X.here hx rfl (pc0 := 29) (pc' := 46) rfl (hb hby d2_29) rfl (XT.ii_lt_t q29) (by decide) (by decide)) ?_
        show own_E p e below Qq T (mkF m 46 #[.val (.int x0), .val (.int x1), .val (.int (x0 ||| (32 : Int32)))] [])
        exact B46 _ _ x0 x1 (x0 ||| (32 : Int32)) X eT N hF
      · replace hF := hF.trans (if_neg q29)
        refine own_st (fun _ => XS.icmpNo X.here hx rfl (hb hby d2_29) rfl (XT.ii_lt_f q29)) ?_
        show own_E p e below Qq T (mkF m 32 #[.val (.int x0), .val (.int x1), .val (.int (x0 ||| (32 : Int32)))] [])
        refine own_st (fun _ => XS.iloadN X.here hx rfl (hb hby d2_32) rfl) ?_
        show own_E p e below Qq T (mkF m 33 #[.val (.int x0), .val (.int x1), .val (.int (x0 ||| (32 : Int32)))] [(.int (x0 ||| (32 : Int32)))])
        refine own_st (fun _ => XS.bipush X.here hx rfl (hb hby d2_33)) ?_
        show own_E p e below Qq T (mkF m 35 #[.val (.int x0), .val (.int x1), .val (.int (x0 ||| (32 : Int32)))] [(.int (102 : Int32)), (.int (x0 ||| (32 : Int32)))])
        by_cases q35 : (102 : Int32) < (x0 ||| (32 : Int32))
        · replace hF := hF.trans (if_pos q35)
          refine own_st (fun _ => XS.icmpYes X.here hx rfl (pc0 := 35) (pc' := 46) rfl (hb hby d2_35) rfl (XT.ii_gt_t q35) (by decide) (by decide)) ?_
          show own_E p e below Qq T (mkF m 46 #[.val (.int x0), .val (.int x1), .val (.int (x0 ||| (32 : Int32)))] [])
          exact B46 _ _ x0 x1 (x0 ||| (32 : Int32)) X eT N hF
        · replace hF := hF.trans (if_neg q35)
          refine own_st (fun _ => XS.icmpNo X.here hx rfl (hb hby d2_35) rfl (XT.ii_gt_f q35)) ?_
          show own_E p e below Qq T (mkF m 38 #[.val (.int x0), .val (.int x1), .val (.int (x0 ||| (32 : Int32)))] [])
          refine own_st (fun _ => XS.iloadN X.here hx rfl (hb hby d2_38) rfl) ?_
          show own_E p e below Qq T (mkF m 39 #[.val (.int x0), .val (.int x1), .val (.int (x0 ||| (32 : Int32)))] [(.int (x0 ||| (32 : Int32)))])
          refine own_st (fun _ => XS.bipush X.here hx rfl (hb hby d2_39)) ?_
          show own_E p e below Qq T (mkF m 41 #[.val (.int x0), .val (.int x1), .val (.int (x0 ||| (32 : Int32)))] [(.int (97 : Int32)), (.int (x0 ||| (32 : Int32)))])
          refine own_st (fun _ => XS.isub X.here hx rfl (hb hby d2_41) rfl) ?_
          show own_E p e below Qq T (mkF m 42 #[.val (.int x0), .val (.int x1), .val (.int (x0 ||| (32 : Int32)))] [(.int ((x0 ||| (32 : Int32)) - (97 : Int32)))])
          refine own_st (fun _ => XS.bipush X.here hx rfl (hb hby d2_42)) ?_
          show own_E p e below Qq T (mkF m 44 #[.val (.int x0), .val (.int x1), .val (.int (x0 ||| (32 : Int32)))] [(.int (10 : Int32)), (.int ((x0 ||| (32 : Int32)) - (97 : Int32)))])
          refine own_st (fun _ => XS.iadd X.here hx rfl (hb hby d2_44) rfl) ?_
          show own_E p e below Qq T (mkF m 45 #[.val (.int x0), .val (.int x1), .val (.int (x0 ||| (32 : Int32)))] [(.int (((x0 ||| (32 : Int32)) - (97 : Int32)) + (10 : Int32)))])
          rw [← hQ]
          exact own_retI X hx hlk hret (hb hby d2_45) (by decide) (by decide) ⟨by (rw [hF]; try rfl), N, eT⟩
  show own_E p e below Qq T (mkF m 0 #[.val (.int p0), .val (.int p1), .unset] [])
  refine own_st (fun _ => XS.iloadN X.here hx rfl (hb hby d2_0) rfl) ?_
  show own_E p e below Qq T (mkF m 1 #[.val (.int p0), .val (.int p1), .unset] [(.int p0)])
  refine own_st (fun _ => XS.bipush X.here hx rfl (hb hby d2_1)) ?_
  show own_E p e below Qq T (mkF m 3 #[.val (.int p0), .val (.int p1), .unset] [(.int (48 : Int32)), (.int p0)])
  by_cases q3 : p0 < (48 : Int32)
  · replace hF := hF.trans (if_pos q3)
    refine own_st (fun _ => XS.icmpYes X.here hx rfl (pc0 := 3) (pc' := 17) rfl (hb hby d2_3) rfl (XT.ii_lt_t q3) (by decide) (by decide)) ?_
    show own_E p e below Qq T (mkF m 17 #[.val (.int p0), .val (.int p1), .unset] [])
    exact B17 _ _ p0 p1 X eT N hF
  · replace hF := hF.trans (if_neg q3)
    refine own_st (fun _ => XS.icmpNo X.here hx rfl (hb hby d2_3) rfl (XT.ii_lt_f q3)) ?_
    show own_E p e below Qq T (mkF m 6 #[.val (.int p0), .val (.int p1), .unset] [])
    refine own_st (fun _ => XS.iloadN X.here hx rfl (hb hby d2_6) rfl) ?_
    show own_E p e below Qq T (mkF m 7 #[.val (.int p0), .val (.int p1), .unset] [(.int p0)])
    refine own_st (fun _ => XS.bipush X.here hx rfl (hb hby d2_7)) ?_
    show own_E p e below Qq T (mkF m 9 #[.val (.int p0), .val (.int p1), .unset] [(.int (57 : Int32)), (.int p0)])
    by_cases q9 : (57 : Int32) < p0
    · replace hF := hF.trans (if_pos q9)
      refine own_st (fun _ => XS.icmpYes X.here hx rfl (pc0 := 9) (pc' := 17) rfl (hb hby d2_9) rfl (XT.ii_gt_t q9) (by decide) (by decide)) ?_
      show own_E p e below Qq T (mkF m 17 #[.val (.int p0), .val (.int p1), .unset] [])
      exact B17 _ _ p0 p1 X eT N hF
    · replace hF := hF.trans (if_neg q9)
      refine own_st (fun _ => XS.icmpNo X.here hx rfl (hb hby d2_9) rfl (XT.ii_gt_f q9)) ?_
      show own_E p e below Qq T (mkF m 12 #[.val (.int p0), .val (.int p1), .unset] [])
      refine own_st (fun _ => XS.iloadN X.here hx rfl (hb hby d2_12) rfl) ?_
      show own_E p e below Qq T (mkF m 13 #[.val (.int p0), .val (.int p1), .unset] [(.int p0)])
      refine own_st (fun _ => XS.bipush X.here hx rfl (hb hby d2_13)) ?_
      show own_E p e below Qq T (mkF m 15 #[.val (.int p0), .val (.int p1), .unset] [(.int (48 : Int32)), (.int p0)])
      refine own_st (fun _ => XS.isub X.here hx rfl (hb hby d2_15) rfl) ?_
      show own_E p e below Qq T (mkF m 16 #[.val (.int p0), .val (.int p1), .unset] [(.int (p0 - (48 : Int32)))])
      rw [← hQ]
      exact own_retI X hx hlk hret (hb hby d2_16) (by decide) (by decide) ⟨by (rw [hF]; try rfl), N, eT⟩
theorem ef_0 (m : MethodId) (p0 : Int32) (p1 : Int32) (p2 : Int32) : entryFrame m #[(.int p0), (.int p1), (.int p2)] maxLocals = (mkF m 0 #[.val (.int p0), .val (.int p1), .val (.int p2), .unset, .unset, .unset, .unset, .unset, .unset, .unset] []) := by first | (simp [entryFrame, mkF, argsToLocals, Value.category, maxLocals]; done) | rfl
def F0_151 (x0 : Int32) (x1 : Int32) (x2 : Int32) (x3 : Int32) (x4 : Int32) (x5 : Int32) (x6 : Int32) (x7 : Int32) (x8 : Int32) (x9 : Int32) (y10 : Int32) : Int32 := (nar .boolean y10)
def F0_150 (x0 : Int32) (x1 : Int32) (x2 : Int32) (x3 : Int32) (x4 : Int32) (x5 : Int32) (x6 : Int32) (x7 : Int32) (x8 : Int32) (x9 : Int32) : Int32 := (F0_151 x0 x1 x2 x3 x4 x5 x6 x7 x8 x9 (0 : Int32))
def F0_134 (x0 : Int32) (x1 : Int32) (x2 : Int32) (x3 : Int32) (x4 : Int32) (x5 : Int32) (x6 : Int32) (x7 : Int32) (x8 : Int32) (y9 : Int32) : Int32 := (if x5 = (0 : Int32) then (F0_150 x0 x1 x2 x3 x4 x5 x6 x7 x8 y9) else (if y9 = (0 : Int32) then (F0_150 x0 x1 x2 x3 x4 x5 x6 x7 x8 y9) else (F0_151 x0 x1 x2 x3 x4 x5 x6 x7 x8 y9 (1 : Int32))))
def F0_133 (x0 : Int32) (x1 : Int32) (x2 : Int32) (x3 : Int32) (x4 : Int32) (x5 : Int32) (x6 : Int32) (x7 : Int32) (x8 : Int32) : Int32 := (F0_134 x0 x1 x2 x3 x4 x5 x6 x7 x8 (0 : Int32))
def F0_103 (x0 : Int32) (x1 : Int32) (x2 : Int32) (x3 : Int32) (x4 : Int32) (x5 : Int32) (x6 : Int32) (x7 : Int32) (y8 : Int32) : Int32 := (if (F1_0 x7 x4) = x6 then (if (F1_0 y8 x4) = x6 then (F0_134 x0 x1 x2 x3 x4 x5 x6 x7 y8 (1 : Int32)) else (F0_133 x0 x1 x2 x3 x4 x5 x6 x7 y8)) else (F0_133 x0 x1 x2 x3 x4 x5 x6 x7 y8))
def F0_78 (x0 : Int32) (x1 : Int32) (x2 : Int32) (x3 : Int32) (x4 : Int32) (x5 : Int32) (x6 : Int32) (y7 : Int32) : Int32 := (if x6 < (10 : Int32) then (F0_103 x0 x1 x2 x3 x4 x5 x6 y7 ((48 : Int32) + x6)) else (F0_103 x0 x1 x2 x3 x4 x5 x6 y7 ((65 : Int32) + (x6 - (10 : Int32)))))
def F0_44 (x0 : Int32) (x1 : Int32) (x2 : Int32) (x3 : Int32) (x4 : Int32) (y5 : Int32) : Int32 := (if ((x2 &&& (2147483647 : Int32)) - ((x2 &&& (2147483647 : Int32)) / x4) * x4) < (10 : Int32) then (F0_78 x0 x1 x2 x3 x4 y5 ((x2 &&& (2147483647 : Int32)) - ((x2 &&& (2147483647 : Int32)) / x4) * x4) ((48 : Int32) + ((x2 &&& (2147483647 : Int32)) - ((x2 &&& (2147483647 : Int32)) / x4) * x4))) else (F0_78 x0 x1 x2 x3 x4 y5 ((x2 &&& (2147483647 : Int32)) - ((x2 &&& (2147483647 : Int32)) / x4) * x4) ((97 : Int32) + (((x2 &&& (2147483647 : Int32)) - ((x2 &&& (2147483647 : Int32)) / x4) * x4) - (10 : Int32)))))
def F0_23 (x0 : Int32) (x1 : Int32) (x2 : Int32) (x3 : Int32) (y4 : Int32) : Int32 := (if (F1_0 x0 y4) = (F2_0 x0 x3) then (F0_44 x0 x1 x2 x3 y4 (1 : Int32)) else (F0_44 x0 x1 x2 x3 y4 (0 : Int32)))
def F0_11 (x0 : Int32) (x1 : Int32) (x2 : Int32) (y3 : Int32) : Int32 := (if y3 = (0 : Int32) then (F0_23 x0 x1 x2 y3 (10 : Int32)) else (F0_23 x0 x1 x2 y3 (16 : Int32)))
def F0_0 (x0 : Int32) (x1 : Int32) (x2 : Int32) : Int32 := (if (x1 &&& (1 : Int32)) = (0 : Int32) then (F0_11 x0 x1 x2 (0 : Int32)) else (F0_11 x0 x1 x2 (1 : Int32)))
set_option maxRecDepth 65536 in
set_option maxHeartbeats 40000000 in
theorem rm0 (l : Launch) (Z : State) (a0 : Array Value) (hw : ∀ d ∈ tables_1, d.before a0 Z = true) (p0 : Int32) (p1 : Int32) (p2 : Int32) (h0 : Heap) (n0 : Nat) (Z0 : n0 ≤ h0.size) :
    own_M l Z x code maxLocals ret room_1 #[(.int p0), (.int p1), (.int p2)] h0 (fun v h L => v = some (.int (F0_0 p0 p1 p2)) ∧ Fr n0 L ∧ h = h0) := by
  refine own_body pn_2 ?_
  intro p e s m below meth c T hx hby hml hown hZ hret hlk hnm X eT
  have N := Fr.nil n0
  obtain ⟨w, hF⟩ : ∃ w, w = F0_0 p0 p1 p2 := ⟨_, rfl⟩
  try rw [← hF]
  generalize hQ : own_Q s (fun v h L => v = some (.int w) ∧ Fr n0 L ∧ h = h0) room_1.cells room_1.slots = Qq
  refine own_st (fun _ k => castTop (ef_0 m p0 p1 p2) k) ?_
  have B151 : ∀ (T : State) (L : List Loc) (x0 : Int32) (x1 : Int32) (x2 : Int32) (x3 : Int32) (x4 : Int32) (x5 : Int32) (x6 : Int32) (x7 : Int32) (x8 : Int32) (x9 : Int32) (y10 : Int32), Stand p l e room_1 s m #[(.int p0), (.int p1), (.int p2)] below meth c T L 0 0 → T.heap = h0 → Fr n0 L → w = F0_151 x0 x1 x2 x3 x4 x5 x6 x7 x8 x9 y10 → own_E p e below Qq T (mkF m 151 #[.val (.int x0), .val (.int x1), .val (.int x2), .val (.int x3), .val (.int x4), .val (.int x5), .val (.int x6), .val (.int x7), .val (.int x8), .val (.int x9)] [(.int y10)]) := by
    intro T L x0 x1 x2 x3 x4 x5 x6 x7 x8 x9 y10 X eT N hF
    rw [← hQ]
    exact own_retN X hx hlk (t := .boolean) hret (by simp) (hb hby at_151) (by decide) (by decide) ⟨by (rw [hF]; try rfl), N, eT⟩
  have B150 : ∀ (T : State) (L : List Loc) (x0 : Int32) (x1 : Int32) (x2 : Int32) (x3 : Int32) (x4 : Int32) (x5 : Int32) (x6 : Int32) (x7 : Int32) (x8 : Int32) (x9 : Int32), Stand p l e room_1 s m #[(.int p0), (.int p1), (.int p2)] below meth c T L 0 0 → T.heap = h0 → Fr n0 L → w = F0_150 x0 x1 x2 x3 x4 x5 x6 x7 x8 x9 → own_E p e below Qq T (mkF m 150 #[.val (.int x0), .val (.int x1), .val (.int x2), .val (.int x3), .val (.int x4), .val (.int x5), .val (.int x6), .val (.int x7), .val (.int x8), .val (.int x9)] []) := by
    intro T L x0 x1 x2 x3 x4 x5 x6 x7 x8 x9 X eT N hF
    refine own_st (fun _ => XS.iconst X.here hx rfl (hb hby at_150)) ?_
    show own_E p e below Qq T (mkF m 151 #[.val (.int x0), .val (.int x1), .val (.int x2), .val (.int x3), .val (.int x4), .val (.int x5), .val (.int x6), .val (.int x7), .val (.int x8), .val (.int x9)] [(.int (0 : Int32))])
    exact B151 _ _ x0 x1 x2 x3 x4 x5 x6 x7 x8 x9 (0 : Int32) X eT N hF
  have B134 : ∀ (T : State) (L : List Loc) (x0 : Int32) (x1 : Int32) (x2 : Int32) (x3 : Int32) (x4 : Int32) (x5 : Int32) (x6 : Int32) (x7 : Int32) (x8 : Int32) (y9 : Int32), Stand p l e room_1 s m #[(.int p0), (.int p1), (.int p2)] below meth c T L 0 0 → T.heap = h0 → Fr n0 L → w = F0_134 x0 x1 x2 x3 x4 x5 x6 x7 x8 y9 → own_E p e below Qq T (mkF m 134 #[.val (.int x0), .val (.int x1), .val (.int x2), .val (.int x3), .val (.int x4), .val (.int x5), .val (.int x6), .val (.int x7), .val (.int x8), .unset] [(.int y9)]) := by
    intro T L x0 x1 x2 x3 x4 x5 x6 x7 x8 y9 X eT N hF
    refine own_st (fun _ => XS.istore X.here hx rfl (hb hby at_134) rfl (l' := #[.val (.int x0), .val (.int x1), .val (.int x2), .val (.int x3), .val (.int x4), .val (.int x5), .val (.int x6), .val (.int x7), .val (.int x8), .val (.int y9)]) rfl) ?_
    show own_E p e below Qq T (mkF m 136 #[.val (.int x0), .val (.int x1), .val (.int x2), .val (.int x3), .val (.int x4), .val (.int x5), .val (.int x6), .val (.int x7), .val (.int x8), .val (.int y9)] [])
    refine own_st (fun _ => XS.iload X.here hx rfl (hb hby at_136) rfl) ?_
    show own_E p e below Qq T (mkF m 138 #[.val (.int x0), .val (.int x1), .val (.int x2), .val (.int x3), .val (.int x4), .val (.int x5), .val (.int x6), .val (.int x7), .val (.int x8), .val (.int y9)] [(.int x5)])
    by_cases q138 : x5 = (0 : Int32)
    · replace hF := hF.trans (if_pos q138)
      refine own_st (fun _ => XS.ifYes X.here hx rfl (pc0 := 138) (pc' := 150) rfl (hb hby at_138) rfl (XT.i0_eq_t q138) (by decide) (by decide)) ?_
      show own_E p e below Qq T (mkF m 150 #[.val (.int x0), .val (.int x1), .val (.int x2), .val (.int x3), .val (.int x4), .val (.int x5), .val (.int x6), .val (.int x7), .val (.int x8), .val (.int y9)] [])
      exact B150 _ _ x0 x1 x2 x3 x4 x5 x6 x7 x8 y9 X eT N hF
    · replace hF := hF.trans (if_neg q138)
      refine own_st (fun _ => XS.ifNo X.here hx rfl (hb hby at_138) rfl (XT.i0_eq_f q138)) ?_
      show own_E p e below Qq T (mkF m 141 #[.val (.int x0), .val (.int x1), .val (.int x2), .val (.int x3), .val (.int x4), .val (.int x5), .val (.int x6), .val (.int x7), .val (.int x8), .val (.int y9)] [])
      refine own_st (fun _ => XS.iload X.here hx rfl (hb hby at_141) rfl) ?_
      show own_E p e below Qq T (mkF m 143 #[.val (.int x0), .val (.int x1), .val (.int x2), .val (.int x3), .val (.int x4), .val (.int x5), .val (.int x6), .val (.int x7), .val (.int x8), .val (.int y9)] [(.int y9)])
      by_cases q143 : y9 = (0 : Int32)
      · replace hF := hF.trans (if_pos q143)
        refine own_st (fun _ => XS.ifYes X.here hx rfl (pc0 := 143) (pc' := 150) rfl (hb hby at_143) rfl (XT.i0_eq_t q143) (by decide) (by decide)) ?_
        show own_E p e below Qq T (mkF m 150 #[.val (.int x0), .val (.int x1), .val (.int x2), .val (.int x3), .val (.int x4), .val (.int x5), .val (.int x6), .val (.int x7), .val (.int x8), .val (.int y9)] [])
        exact B150 _ _ x0 x1 x2 x3 x4 x5 x6 x7 x8 y9 X eT N hF
      · replace hF := hF.trans (if_neg q143)
        refine own_st (fun _ => XS.ifNo X.here hx rfl (hb hby at_143) rfl (XT.i0_eq_f q143)) ?_
        show own_E p e below Qq T (mkF m 146 #[.val (.int x0), .val (.int x1), .val (.int x2), .val (.int x3), .val (.int x4), .val (.int x5), .val (.int x6), .val (.int x7), .val (.int x8), .val (.int y9)] [])
        refine own_st (fun _ => XS.iconst X.here hx rfl (hb hby at_146)) ?_
        show own_E p e below Qq T (mkF m 147 #[.val (.int x0), .val (.int x1), .val (.int x2), .val (.int x3), .val (.int x4), .val (.int x5), .val (.int x6), .val (.int x7), .val (.int x8), .val (.int y9)] [(.int (1 : Int32))])
        refine own_st (fun _ => XS.goto X.here hx rfl (pc0 := 147) (pc' := 151) rfl (hb hby at_147) (by decide) (by decide)) ?_
        show own_E p e below Qq T (mkF m 151 #[.val (.int x0), .val (.int x1), .val (.int x2), .val (.int x3), .val (.int x4), .val (.int x5), .val (.int x6), .val (.int x7), .val (.int x8), .val (.int y9)] [(.int (1 : Int32))])
        exact B151 _ _ x0 x1 x2 x3 x4 x5 x6 x7 x8 y9 (1 : Int32) X eT N hF
  have B133 : ∀ (T : State) (L : List Loc) (x0 : Int32) (x1 : Int32) (x2 : Int32) (x3 : Int32) (x4 : Int32) (x5 : Int32) (x6 : Int32) (x7 : Int32) (x8 : Int32), Stand p l e room_1 s m #[(.int p0), (.int p1), (.int p2)] below meth c T L 0 0 → T.heap = h0 → Fr n0 L → w = F0_133 x0 x1 x2 x3 x4 x5 x6 x7 x8 → own_E p e below Qq T (mkF m 133 #[.val (.int x0), .val (.int x1), .val (.int x2), .val (.int x3), .val (.int x4), .val (.int x5), .val (.int x6), .val (.int x7), .val (.int x8), .unset] []) := by
    intro T L x0 x1 x2 x3 x4 x5 x6 x7 x8 X eT N hF
    refine own_st (fun _ => XS.iconst X.here hx rfl (hb hby at_133)) ?_
    show own_E p e below Qq T (mkF m 134 #[.val (.int x0), .val (.int x1), .val (.int x2), .val (.int x3), .val (.int x4), .val (.int x5), .val (.int x6), .val (.int x7), .val (.int x8), .unset] [(.int (0 : Int32))])
    exact B134 _ _ x0 x1 x2 x3 x4 x5 x6 x7 x8 (0 : Int32) X eT N hF
  have B103 : ∀ (T : State) (L : List Loc) (x0 : Int32) (x1 : Int32) (x2 : Int32) (x3 : Int32) (x4 : Int32) (x5 : Int32) (x6 : Int32) (x7 : Int32) (y8 : Int32), Stand p l e room_1 s m #[(.int p0), (.int p1), (.int p2)] below meth c T L 0 0 → T.heap = h0 → Fr n0 L → w = F0_103 x0 x1 x2 x3 x4 x5 x6 x7 y8 → own_E p e below Qq T (mkF m 103 #[.val (.int x0), .val (.int x1), .val (.int x2), .val (.int x3), .val (.int x4), .val (.int x5), .val (.int x6), .val (.int x7), .unset, .unset] [(.int y8)]) := by
    intro T L x0 x1 x2 x3 x4 x5 x6 x7 y8 X eT N hF
    refine own_st (fun _ => XS.istore X.here hx rfl (hb hby at_103) rfl (l' := #[.val (.int x0), .val (.int x1), .val (.int x2), .val (.int x3), .val (.int x4), .val (.int x5), .val (.int x6), .val (.int x7), .val (.int y8), .unset]) rfl) ?_
    show own_E p e below Qq T (mkF m 105 #[.val (.int x0), .val (.int x1), .val (.int x2), .val (.int x3), .val (.int x4), .val (.int x5), .val (.int x6), .val (.int x7), .val (.int y8), .unset] [])
    refine own_st (fun _ => XS.iload X.here hx rfl (hb hby at_105) rfl) ?_
    show own_E p e below Qq T (mkF m 107 #[.val (.int x0), .val (.int x1), .val (.int x2), .val (.int x3), .val (.int x4), .val (.int x5), .val (.int x6), .val (.int x7), .val (.int y8), .unset] [(.int x7)])
    refine own_st (fun _ => XS.iload X.here hx rfl (hb hby at_107) rfl) ?_
    show own_E p e below Qq T (mkF m 109 #[.val (.int x0), .val (.int x1), .val (.int x2), .val (.int x3), .val (.int x4), .val (.int x5), .val (.int x6), .val (.int x7), .val (.int y8), .unset] [(.int x4), (.int x7)])
    refine own_callS X hx hZ hown (hw _ (List.mem_of_getElem? (i := 0) rfl)) (hw _ (List.mem_of_getElem? (i := 1) rfl)) (hw _ (List.mem_of_getElem? (i := 2) rfl)) (hw _ (List.mem_of_getElem? (i := 3) rfl)) (by decide) (W := 0) (argsL := [(.int x7), (.int x4)]) (rest := []) (rm1 l Z a0 hw x7 x4 _ n0) (by decide) (by decide) (by decide) (by decide) rfl (by rw [hml]; rfl) (lenOf pd_1 rfl) rfl (by show 2 * 0 + _ ≤ _; exact Nat.le_of_eq rfl) (hb hby at_109) ?_
    intro T1 L1 v X' hq
    obtain ⟨rfl, N', e'⟩ := hq
    replace eT := e'.trans eT
    replace N := Fr.app N N'
    replace X : Stand p l e room_1 s m #[(.int p0), (.int p1), (.int p2)] below meth c T1 _ 0 0 := X'
    clear X' N' e'
    show own_E p e below Qq T1 (mkF m 112 #[.val (.int x0), .val (.int x1), .val (.int x2), .val (.int x3), .val (.int x4), .val (.int x5), .val (.int x6), .val (.int x7), .val (.int y8), .unset] [(.int (F1_0 x7 x4))])
    refine own_st (fun _ => XS.iload X.here hx rfl (hb hby at_112) rfl) ?_
    show own_E p e below Qq T1 (mkF m 114 #[.val (.int x0), .val (.int x1), .val (.int x2), .val (.int x3), .val (.int x4), .val (.int x5), .val (.int x6), .val (.int x7), .val (.int y8), .unset] [(.int x6), (.int (F1_0 x7 x4))])
    by_cases q114 : (F1_0 x7 x4) = x6
    · replace hF := hF.trans (if_pos q114)
      refine own_st (fun _ => XS.icmpNo X.here hx rfl (hb hby at_114) rfl (XT.ii_ne_f q114)) ?_
      show own_E p e below Qq T1 (mkF m 117 #[.val (.int x0), .val (.int x1), .val (.int x2), .val (.int x3), .val (.int x4), .val (.int x5), .val (.int x6), .val (.int x7), .val (.int y8), .unset] [])
      refine own_st (fun _ => XS.iload X.here hx rfl (hb hby at_117) rfl) ?_
      show own_E p e below Qq T1 (mkF m 119 #[.val (.int x0), .val (.int x1), .val (.int x2), .val (.int x3), .val (.int x4), .val (.int x5), .val (.int x6), .val (.int x7), .val (.int y8), .unset] [(.int y8)])
      refine own_st (fun _ => XS.iload X.here hx rfl (hb hby at_119) rfl) ?_
      show own_E p e below Qq T1 (mkF m 121 #[.val (.int x0), .val (.int x1), .val (.int x2), .val (.int x3), .val (.int x4), .val (.int x5), .val (.int x6), .val (.int x7), .val (.int y8), .unset] [(.int x4), (.int y8)])
      refine own_callS X hx hZ hown (hw _ (List.mem_of_getElem? (i := 0) rfl)) (hw _ (List.mem_of_getElem? (i := 1) rfl)) (hw _ (List.mem_of_getElem? (i := 2) rfl)) (hw _ (List.mem_of_getElem? (i := 3) rfl)) (by decide) (W := 0) (argsL := [(.int y8), (.int x4)]) (rest := []) (rm1 l Z a0 hw y8 x4 _ n0) (by decide) (by decide) (by decide) (by decide) rfl (by rw [hml]; rfl) (lenOf pd_1 rfl) rfl (by show 2 * 0 + _ ≤ _; exact Nat.le_of_eq rfl) (hb hby at_121) ?_
      intro T2 L2 v X' hq
      obtain ⟨rfl, N', e'⟩ := hq
      replace eT := e'.trans eT
      replace N := Fr.app N N'
      replace X : Stand p l e room_1 s m #[(.int p0), (.int p1), (.int p2)] below meth c T2 _ 0 0 := X'
      clear X' N' e'
      show own_E p e below Qq T2 (mkF m 124 #[.val (.int x0), .val (.int x1), .val (.int x2), .val (.int x3), .val (.int x4), .val (.int x5), .val (.int x6), .val (.int x7), .val (.int y8), .unset] [(.int (F1_0 y8 x4))])
      refine own_st (fun _ => XS.iload X.here hx rfl (hb hby at_124) rfl) ?_
      show own_E p e below Qq T2 (mkF m 126 #[.val (.int x0), .val (.int x1), .val (.int x2), .val (.int x3), .val (.int x4), .val (.int x5), .val (.int x6), .val (.int x7), .val (.int y8), .unset] [(.int x6), (.int (F1_0 y8 x4))])
      by_cases q126 : (F1_0 y8 x4) = x6
      · replace hF := hF.trans (if_pos q126)
        refine own_st (fun _ => XS.icmpNo X.here hx rfl (hb hby at_126) rfl (XT.ii_ne_f q126)) ?_
        show own_E p e below Qq T2 (mkF m 129 #[.val (.int x0), .val (.int x1), .val (.int x2), .val (.int x3), .val (.int x4), .val (.int x5), .val (.int x6), .val (.int x7), .val (.int y8), .unset] [])
        refine own_st (fun _ => XS.iconst X.here hx rfl (hb hby at_129)) ?_
        show own_E p e below Qq T2 (mkF m 130 #[.val (.int x0), .val (.int x1), .val (.int x2), .val (.int x3), .val (.int x4), .val (.int x5), .val (.int x6), .val (.int x7), .val (.int y8), .unset] [(.int (1 : Int32))])
        refine own_st (fun _ => XS.goto X.here hx rfl (pc0 := 130) (pc' := 134) rfl (hb hby at_130) (by decide) (by decide)) ?_
        show own_E p e below Qq T2 (mkF m 134 #[.val (.int x0), .val (.int x1), .val (.int x2), .val (.int x3), .val (.int x4), .val (.int x5), .val (.int x6), .val (.int x7), .val (.int y8), .unset] [(.int (1 : Int32))])
        exact B134 _ _ x0 x1 x2 x3 x4 x5 x6 x7 y8 (1 : Int32) X eT N hF
      · replace hF := hF.trans (if_neg q126)
        refine own_st (fun _ => XS.icmpYes X.here hx rfl (pc0 := 126) (pc' := 133) rfl (hb hby at_126) rfl (XT.ii_ne_t q126) (by decide) (by decide)) ?_
        show own_E p e below Qq T2 (mkF m 133 #[.val (.int x0), .val (.int x1), .val (.int x2), .val (.int x3), .val (.int x4), .val (.int x5), .val (.int x6), .val (.int x7), .val (.int y8), .unset] [])
        exact B133 _ _ x0 x1 x2 x3 x4 x5 x6 x7 y8 X eT N hF
    · replace hF := hF.trans (if_neg q114)
      refine own_st (fun _ => XS.icmpYes X.here hx rfl (pc0 := 114) (pc' := 133) rfl (hb hby at_114) rfl (XT.ii_ne_t q114) (by decide) (by decide)) ?_
      show own_E p e below Qq T1 (mkF m 133 #[.val (.int x0), .val (.int x1), .val (.int x2), .val (.int x3), .val (.int x4), .val (.int x5), .val (.int x6), .val (.int x7), .val (.int y8), .unset] [])
      exact B133 _ _ x0 x1 x2 x3 x4 x5 x6 x7 y8 X eT N hF
  have B78 : ∀ (T : State) (L : List Loc) (x0 : Int32) (x1 : Int32) (x2 : Int32) (x3 : Int32) (x4 : Int32) (x5 : Int32) (x6 : Int32) (y7 : Int32), Stand p l e room_1 s m #[(.int p0), (.int p1), (.int p2)] below meth c T L 0 0 → T.heap = h0 → Fr n0 L → w = F0_78 x0 x1 x2 x3 x4 x5 x6 y7 → own_E p e below Qq T (mkF m 78 #[.val (.int x0), .val (.int x1), .val (.int x2), .val (.int x3), .val (.int x4), .val (.int x5), .val (.int x6), .unset, .unset, .unset] [(.int y7)]) := by
    intro T L x0 x1 x2 x3 x4 x5 x6 y7 X eT N hF
    refine own_st (fun _ => XS.istore X.here hx rfl (hb hby at_78) rfl (l' := #[.val (.int x0), .val (.int x1), .val (.int x2), .val (.int x3), .val (.int x4), .val (.int x5), .val (.int x6), .val (.int y7), .unset, .unset]) rfl) ?_
    show own_E p e below Qq T (mkF m 80 #[.val (.int x0), .val (.int x1), .val (.int x2), .val (.int x3), .val (.int x4), .val (.int x5), .val (.int x6), .val (.int y7), .unset, .unset] [])
    refine own_st (fun _ => XS.iload X.here hx rfl (hb hby at_80) rfl) ?_
    show own_E p e below Qq T (mkF m 82 #[.val (.int x0), .val (.int x1), .val (.int x2), .val (.int x3), .val (.int x4), .val (.int x5), .val (.int x6), .val (.int y7), .unset, .unset] [(.int x6)])
    refine own_st (fun _ => XS.bipush X.here hx rfl (hb hby at_82)) ?_
    show own_E p e below Qq T (mkF m 84 #[.val (.int x0), .val (.int x1), .val (.int x2), .val (.int x3), .val (.int x4), .val (.int x5), .val (.int x6), .val (.int y7), .unset, .unset] [(.int (10 : Int32)), (.int x6)])
    by_cases q84 : x6 < (10 : Int32)
    · replace hF := hF.trans (if_pos q84)
      refine own_st (fun _ => XS.icmpNo X.here hx rfl (hb hby at_84) rfl (XT.ii_ge_f q84)) ?_
      show own_E p e below Qq T (mkF m 87 #[.val (.int x0), .val (.int x1), .val (.int x2), .val (.int x3), .val (.int x4), .val (.int x5), .val (.int x6), .val (.int y7), .unset, .unset] [])
      refine own_st (fun _ => XS.bipush X.here hx rfl (hb hby at_87)) ?_
      show own_E p e below Qq T (mkF m 89 #[.val (.int x0), .val (.int x1), .val (.int x2), .val (.int x3), .val (.int x4), .val (.int x5), .val (.int x6), .val (.int y7), .unset, .unset] [(.int (48 : Int32))])
      refine own_st (fun _ => XS.iload X.here hx rfl (hb hby at_89) rfl) ?_
      show own_E p e below Qq T (mkF m 91 #[.val (.int x0), .val (.int x1), .val (.int x2), .val (.int x3), .val (.int x4), .val (.int x5), .val (.int x6), .val (.int y7), .unset, .unset] [(.int x6), (.int (48 : Int32))])
      refine own_st (fun _ => XS.iadd X.here hx rfl (hb hby at_91) rfl) ?_
      show own_E p e below Qq T (mkF m 92 #[.val (.int x0), .val (.int x1), .val (.int x2), .val (.int x3), .val (.int x4), .val (.int x5), .val (.int x6), .val (.int y7), .unset, .unset] [(.int ((48 : Int32) + x6))])
      refine own_st (fun _ => XS.goto X.here hx rfl (pc0 := 92) (pc' := 103) rfl (hb hby at_92) (by decide) (by decide)) ?_
      show own_E p e below Qq T (mkF m 103 #[.val (.int x0), .val (.int x1), .val (.int x2), .val (.int x3), .val (.int x4), .val (.int x5), .val (.int x6), .val (.int y7), .unset, .unset] [(.int ((48 : Int32) + x6))])
      exact B103 _ _ x0 x1 x2 x3 x4 x5 x6 y7 ((48 : Int32) + x6) X eT N hF
    · replace hF := hF.trans (if_neg q84)
      refine own_st (fun _ => XS.icmpYes X.here hx rfl (pc0 := 84) (pc' := 95) rfl (hb hby at_84) rfl (XT.ii_ge_t q84) (by decide) (by decide)) ?_
      show own_E p e below Qq T (mkF m 95 #[.val (.int x0), .val (.int x1), .val (.int x2), .val (.int x3), .val (.int x4), .val (.int x5), .val (.int x6), .val (.int y7), .unset, .unset] [])
      refine own_st (fun _ => XS.bipush X.here hx rfl (hb hby at_95)) ?_
      show own_E p e below Qq T (mkF m 97 #[.val (.int x0), .val (.int x1), .val (.int x2), .val (.int x3), .val (.int x4), .val (.int x5), .val (.int x6), .val (.int y7), .unset, .unset] [(.int (65 : Int32))])
      refine own_st (fun _ => XS.iload X.here hx rfl (hb hby at_97) rfl) ?_
      show own_E p e below Qq T (mkF m 99 #[.val (.int x0), .val (.int x1), .val (.int x2), .val (.int x3), .val (.int x4), .val (.int x5), .val (.int x6), .val (.int y7), .unset, .unset] [(.int x6), (.int (65 : Int32))])
      refine own_st (fun _ => XS.bipush X.here hx rfl (hb hby at_99)) ?_
      show own_E p e below Qq T (mkF m 101 #[.val (.int x0), .val (.int x1), .val (.int x2), .val (.int x3), .val (.int x4), .val (.int x5), .val (.int x6), .val (.int y7), .unset, .unset] [(.int (10 : Int32)), (.int x6), (.int (65 : Int32))])
      refine own_st (fun _ => XS.isub X.here hx rfl (hb hby at_101) rfl) ?_
      show own_E p e below Qq T (mkF m 102 #[.val (.int x0), .val (.int x1), .val (.int x2), .val (.int x3), .val (.int x4), .val (.int x5), .val (.int x6), .val (.int y7), .unset, .unset] [(.int (x6 - (10 : Int32))), (.int (65 : Int32))])
      refine own_st (fun _ => XS.iadd X.here hx rfl (hb hby at_102) rfl) ?_
      show own_E p e below Qq T (mkF m 103 #[.val (.int x0), .val (.int x1), .val (.int x2), .val (.int x3), .val (.int x4), .val (.int x5), .val (.int x6), .val (.int y7), .unset, .unset] [(.int ((65 : Int32) + (x6 - (10 : Int32))))])
      exact B103 _ _ x0 x1 x2 x3 x4 x5 x6 y7 ((65 : Int32) + (x6 - (10 : Int32))) X eT N hF
  have B44 : ∀ (T : State) (L : List Loc) (x0 : Int32) (x1 : Int32) (x2 : Int32) (x3 : Int32) (x4 : Int32) (y5 : Int32), Stand p l e room_1 s m #[(.int p0), (.int p1), (.int p2)] below meth c T L 0 0 → T.heap = h0 → Fr n0 L → w = F0_44 x0 x1 x2 x3 x4 y5 → x4 ≠ 0 → own_E p e below Qq T (mkF m 44 #[.val (.int x0), .val (.int x1), .val (.int x2), .val (.int x3), .val (.int x4), .unset, .unset, .unset, .unset, .unset] [(.int y5)]) := by
    intro T L x0 x1 x2 x3 x4 y5 X eT N hF hP
    refine own_st (fun _ => XS.istore X.here hx rfl (hb hby at_44) rfl (l' := #[.val (.int x0), .val (.int x1), .val (.int x2), .val (.int x3), .val (.int x4), .val (.int y5), .unset, .unset, .unset, .unset]) rfl) ?_
    show own_E p e below Qq T (mkF m 46 #[.val (.int x0), .val (.int x1), .val (.int x2), .val (.int x3), .val (.int x4), .val (.int y5), .unset, .unset, .unset, .unset] [])
    refine own_st (fun _ => XS.iloadN X.here hx rfl (hb hby at_46) rfl) ?_
    show own_E p e below Qq T (mkF m 47 #[.val (.int x0), .val (.int x1), .val (.int x2), .val (.int x3), .val (.int x4), .val (.int y5), .unset, .unset, .unset, .unset] [(.int x2)])
    refine own_st (fun _ => X.ldcI hx hown (mvT hZ (hw _ (List.mem_of_getElem? (i := 8) rfl))) rfl (hb hby at_47)) ?_
    show own_E p e below Qq T (mkF m 49 #[.val (.int x0), .val (.int x1), .val (.int x2), .val (.int x3), .val (.int x4), .val (.int y5), .unset, .unset, .unset, .unset] [(.int (2147483647 : Int32)), (.int x2)])
    refine own_st (fun _ => XS.iand X.here hx rfl (hb hby at_49) rfl) ?_
    show own_E p e below Qq T (mkF m 50 #[.val (.int x0), .val (.int x1), .val (.int x2), .val (.int x3), .val (.int x4), .val (.int y5), .unset, .unset, .unset, .unset] [(.int (x2 &&& (2147483647 : Int32)))])
    refine own_st (fun _ => XS.iload X.here hx rfl (hb hby at_50) rfl) ?_
    show own_E p e below Qq T (mkF m 52 #[.val (.int x0), .val (.int x1), .val (.int x2), .val (.int x3), .val (.int x4), .val (.int y5), .unset, .unset, .unset, .unset] [(.int x4), (.int (x2 &&& (2147483647 : Int32)))])
    refine own_st (fun _ => XS.irem X.here hx rfl (hb hby at_52) rfl (by first | exact hP | decide)) ?_
    show own_E p e below Qq T (mkF m 53 #[.val (.int x0), .val (.int x1), .val (.int x2), .val (.int x3), .val (.int x4), .val (.int y5), .unset, .unset, .unset, .unset] [(.int ((x2 &&& (2147483647 : Int32)) - ((x2 &&& (2147483647 : Int32)) / x4) * x4))])
    refine own_st (fun _ => XS.istore X.here hx rfl (hb hby at_53) rfl (l' := #[.val (.int x0), .val (.int x1), .val (.int x2), .val (.int x3), .val (.int x4), .val (.int y5), .val (.int ((x2 &&& (2147483647 : Int32)) - ((x2 &&& (2147483647 : Int32)) / x4) * x4)), .unset, .unset, .unset]) rfl) ?_
    show own_E p e below Qq T (mkF m 55 #[.val (.int x0), .val (.int x1), .val (.int x2), .val (.int x3), .val (.int x4), .val (.int y5), .val (.int ((x2 &&& (2147483647 : Int32)) - ((x2 &&& (2147483647 : Int32)) / x4) * x4)), .unset, .unset, .unset] [])
    refine own_st (fun _ => XS.iload X.here hx rfl (hb hby at_55) rfl) ?_
    show own_E p e below Qq T (mkF m 57 #[.val (.int x0), .val (.int x1), .val (.int x2), .val (.int x3), .val (.int x4), .val (.int y5), .val (.int ((x2 &&& (2147483647 : Int32)) - ((x2 &&& (2147483647 : Int32)) / x4) * x4)), .unset, .unset, .unset] [(.int ((x2 &&& (2147483647 : Int32)) - ((x2 &&& (2147483647 : Int32)) / x4) * x4))])
    refine own_st (fun _ => XS.bipush X.here hx rfl (hb hby at_57)) ?_
    show own_E p e below Qq T (mkF m 59 #[.val (.int x0), .val (.int x1), .val (.int x2), .val (.int x3), .val (.int x4), .val (.int y5), .val (.int ((x2 &&& (2147483647 : Int32)) - ((x2 &&& (2147483647 : Int32)) / x4) * x4)), .unset, .unset, .unset] [(.int (10 : Int32)), (.int ((x2 &&& (2147483647 : Int32)) - ((x2 &&& (2147483647 : Int32)) / x4) * x4))])
    by_cases q59 : ((x2 &&& (2147483647 : Int32)) - ((x2 &&& (2147483647 : Int32)) / x4) * x4) < (10 : Int32)
    · replace hF := hF.trans (if_pos q59)
      refine own_st (fun _ => XS.icmpNo X.here hx rfl (hb hby at_59) rfl (XT.ii_ge_f q59)) ?_
      show own_E p e below Qq T (mkF m 62 #[.val (.int x0), .val (.int x1), .val (.int x2), .val (.int x3), .val (.int x4), .val (.int y5), .val (.int ((x2 &&& (2147483647 : Int32)) - ((x2 &&& (2147483647 : Int32)) / x4) * x4)), .unset, .unset, .unset] [])
      refine own_st (fun _ => XS.bipush X.here hx rfl (hb hby at_62)) ?_
      show own_E p e below Qq T (mkF m 64 #[.val (.int x0), .val (.int x1), .val (.int x2), .val (.int x3), .val (.int x4), .val (.int y5), .val (.int ((x2 &&& (2147483647 : Int32)) - ((x2 &&& (2147483647 : Int32)) / x4) * x4)), .unset, .unset, .unset] [(.int (48 : Int32))])
      refine own_st (fun _ => XS.iload X.here hx rfl (hb hby at_64) rfl) ?_
      show own_E p e below Qq T (mkF m 66 #[.val (.int x0), .val (.int x1), .val (.int x2), .val (.int x3), .val (.int x4), .val (.int y5), .val (.int ((x2 &&& (2147483647 : Int32)) - ((x2 &&& (2147483647 : Int32)) / x4) * x4)), .unset, .unset, .unset] [(.int ((x2 &&& (2147483647 : Int32)) - ((x2 &&& (2147483647 : Int32)) / x4) * x4)), (.int (48 : Int32))])
      refine own_st (fun _ => XS.iadd X.here hx rfl (hb hby at_66) rfl) ?_
      show own_E p e below Qq T (mkF m 67 #[.val (.int x0), .val (.int x1), .val (.int x2), .val (.int x3), .val (.int x4), .val (.int y5), .val (.int ((x2 &&& (2147483647 : Int32)) - ((x2 &&& (2147483647 : Int32)) / x4) * x4)), .unset, .unset, .unset] [(.int ((48 : Int32) + ((x2 &&& (2147483647 : Int32)) - ((x2 &&& (2147483647 : Int32)) / x4) * x4)))])
      refine own_st (fun _ => XS.goto X.here hx rfl (pc0 := 67) (pc' := 78) rfl (hb hby at_67) (by decide) (by decide)) ?_
      show own_E p e below Qq T (mkF m 78 #[.val (.int x0), .val (.int x1), .val (.int x2), .val (.int x3), .val (.int x4), .val (.int y5), .val (.int ((x2 &&& (2147483647 : Int32)) - ((x2 &&& (2147483647 : Int32)) / x4) * x4)), .unset, .unset, .unset] [(.int ((48 : Int32) + ((x2 &&& (2147483647 : Int32)) - ((x2 &&& (2147483647 : Int32)) / x4) * x4)))])
      exact B78 _ _ x0 x1 x2 x3 x4 y5 ((x2 &&& (2147483647 : Int32)) - ((x2 &&& (2147483647 : Int32)) / x4) * x4) ((48 : Int32) + ((x2 &&& (2147483647 : Int32)) - ((x2 &&& (2147483647 : Int32)) / x4) * x4)) X eT N hF
    · replace hF := hF.trans (if_neg q59)
      refine own_st (fun _ => XS.icmpYes X.here hx rfl (pc0 := 59) (pc' := 70) rfl (hb hby at_59) rfl (XT.ii_ge_t q59) (by decide) (by decide)) ?_
      show own_E p e below Qq T (mkF m 70 #[.val (.int x0), .val (.int x1), .val (.int x2), .val (.int x3), .val (.int x4), .val (.int y5), .val (.int ((x2 &&& (2147483647 : Int32)) - ((x2 &&& (2147483647 : Int32)) / x4) * x4)), .unset, .unset, .unset] [])
      refine own_st (fun _ => XS.bipush X.here hx rfl (hb hby at_70)) ?_
      show own_E p e below Qq T (mkF m 72 #[.val (.int x0), .val (.int x1), .val (.int x2), .val (.int x3), .val (.int x4), .val (.int y5), .val (.int ((x2 &&& (2147483647 : Int32)) - ((x2 &&& (2147483647 : Int32)) / x4) * x4)), .unset, .unset, .unset] [(.int (97 : Int32))])
      refine own_st (fun _ => XS.iload X.here hx rfl (hb hby at_72) rfl) ?_
      show own_E p e below Qq T (mkF m 74 #[.val (.int x0), .val (.int x1), .val (.int x2), .val (.int x3), .val (.int x4), .val (.int y5), .val (.int ((x2 &&& (2147483647 : Int32)) - ((x2 &&& (2147483647 : Int32)) / x4) * x4)), .unset, .unset, .unset] [(.int ((x2 &&& (2147483647 : Int32)) - ((x2 &&& (2147483647 : Int32)) / x4) * x4)), (.int (97 : Int32))])
      refine own_st (fun _ => XS.bipush X.here hx rfl (hb hby at_74)) ?_
      show own_E p e below Qq T (mkF m 76 #[.val (.int x0), .val (.int x1), .val (.int x2), .val (.int x3), .val (.int x4), .val (.int y5), .val (.int ((x2 &&& (2147483647 : Int32)) - ((x2 &&& (2147483647 : Int32)) / x4) * x4)), .unset, .unset, .unset] [(.int (10 : Int32)), (.int ((x2 &&& (2147483647 : Int32)) - ((x2 &&& (2147483647 : Int32)) / x4) * x4)), (.int (97 : Int32))])
      refine own_st (fun _ => XS.isub X.here hx rfl (hb hby at_76) rfl) ?_
      show own_E p e below Qq T (mkF m 77 #[.val (.int x0), .val (.int x1), .val (.int x2), .val (.int x3), .val (.int x4), .val (.int y5), .val (.int ((x2 &&& (2147483647 : Int32)) - ((x2 &&& (2147483647 : Int32)) / x4) * x4)), .unset, .unset, .unset] [(.int (((x2 &&& (2147483647 : Int32)) - ((x2 &&& (2147483647 : Int32)) / x4) * x4) - (10 : Int32))), (.int (97 : Int32))])
      refine own_st (fun _ => XS.iadd X.here hx rfl (hb hby at_77) rfl) ?_
      show own_E p e below Qq T (mkF m 78 #[.val (.int x0), .val (.int x1), .val (.int x2), .val (.int x3), .val (.int x4), .val (.int y5), .val (.int ((x2 &&& (2147483647 : Int32)) - ((x2 &&& (2147483647 : Int32)) / x4) * x4)), .unset, .unset, .unset] [(.int ((97 : Int32) + (((x2 &&& (2147483647 : Int32)) - ((x2 &&& (2147483647 : Int32)) / x4) * x4) - (10 : Int32))))])
      exact B78 _ _ x0 x1 x2 x3 x4 y5 ((x2 &&& (2147483647 : Int32)) - ((x2 &&& (2147483647 : Int32)) / x4) * x4) ((97 : Int32) + (((x2 &&& (2147483647 : Int32)) - ((x2 &&& (2147483647 : Int32)) / x4) * x4) - (10 : Int32))) X eT N hF
  have B23 : ∀ (T : State) (L : List Loc) (x0 : Int32) (x1 : Int32) (x2 : Int32) (x3 : Int32) (y4 : Int32), Stand p l e room_1 s m #[(.int p0), (.int p1), (.int p2)] below meth c T L 0 0 → T.heap = h0 → Fr n0 L → w = F0_23 x0 x1 x2 x3 y4 → y4 ≠ 0 → own_E p e below Qq T (mkF m 23 #[.val (.int x0), .val (.int x1), .val (.int x2), .val (.int x3), .unset, .unset, .unset, .unset, .unset, .unset] [(.int y4)]) := by
    intro T L x0 x1 x2 x3 y4 X eT N hF hP
    refine own_st (fun _ => XS.istore X.here hx rfl (hb hby at_23) rfl (l' := #[.val (.int x0), .val (.int x1), .val (.int x2), .val (.int x3), .val (.int y4), .unset, .unset, .unset, .unset, .unset]) rfl) ?_
    show own_E p e below Qq T (mkF m 25 #[.val (.int x0), .val (.int x1), .val (.int x2), .val (.int x3), .val (.int y4), .unset, .unset, .unset, .unset, .unset] [])
    refine own_st (fun _ => XS.iloadN X.here hx rfl (hb hby at_25) rfl) ?_
    show own_E p e below Qq T (mkF m 26 #[.val (.int x0), .val (.int x1), .val (.int x2), .val (.int x3), .val (.int y4), .unset, .unset, .unset, .unset, .unset] [(.int x0)])
    refine own_st (fun _ => XS.iload X.here hx rfl (hb hby at_26) rfl) ?_
    show own_E p e below Qq T (mkF m 28 #[.val (.int x0), .val (.int x1), .val (.int x2), .val (.int x3), .val (.int y4), .unset, .unset, .unset, .unset, .unset] [(.int y4), (.int x0)])
    refine own_callS X hx hZ hown (hw _ (List.mem_of_getElem? (i := 0) rfl)) (hw _ (List.mem_of_getElem? (i := 1) rfl)) (hw _ (List.mem_of_getElem? (i := 2) rfl)) (hw _ (List.mem_of_getElem? (i := 3) rfl)) (by decide) (W := 0) (argsL := [(.int x0), (.int y4)]) (rest := []) (rm1 l Z a0 hw x0 y4 _ n0) (by decide) (by decide) (by decide) (by decide) rfl (by rw [hml]; rfl) (lenOf pd_1 rfl) rfl (by show 2 * 0 + _ ≤ _; exact Nat.le_of_eq rfl) (hb hby at_28) ?_
    intro T3 L3 v X' hq
    obtain ⟨rfl, N', e'⟩ := hq
    replace eT := e'.trans eT
    replace N := Fr.app N N'
    replace X : Stand p l e room_1 s m #[(.int p0), (.int p1), (.int p2)] below meth c T3 _ 0 0 := X'
    clear X' N' e'
    show own_E p e below Qq T3 (mkF m 31 #[.val (.int x0), .val (.int x1), .val (.int x2), .val (.int x3), .val (.int y4), .unset, .unset, .unset, .unset, .unset] [(.int (F1_0 x0 y4))])
    refine own_st (fun _ => XS.iloadN X.here hx rfl (hb hby at_31) rfl) ?_
    show own_E p e below Qq T3 (mkF m 32 #[.val (.int x0), .val (.int x1), .val (.int x2), .val (.int x3), .val (.int y4), .unset, .unset, .unset, .unset, .unset] [(.int x0), (.int (F1_0 x0 y4))])
    refine own_st (fun _ => XS.iloadN X.here hx rfl (hb hby at_32) rfl) ?_
    show own_E p e below Qq T3 (mkF m 33 #[.val (.int x0), .val (.int x1), .val (.int x2), .val (.int x3), .val (.int y4), .unset, .unset, .unset, .unset, .unset] [(.int x3), (.int x0), (.int (F1_0 x0 y4))])
    refine own_callS X hx hZ hown (hw _ (List.mem_of_getElem? (i := 4) rfl)) (hw _ (List.mem_of_getElem? (i := 5) rfl)) (hw _ (List.mem_of_getElem? (i := 6) rfl)) (hw _ (List.mem_of_getElem? (i := 7) rfl)) (by decide) (W := 1) (argsL := [(.int x0), (.int x3)]) (rest := [(.int (F1_0 x0 y4))]) (rm2 l Z a0 hw x0 x3 _ n0) (by decide) (by decide) (by decide) (by decide) rfl (by rw [hml]; rfl) (lenOf pd_2 rfl) rfl (by show 2 * 0 + _ ≤ _; exact Nat.le_of_eq rfl) (hb hby at_33) ?_
    intro T4 L4 v X' hq
    obtain ⟨rfl, N', e'⟩ := hq
    replace eT := e'.trans eT
    replace N := Fr.app N N'
    replace X : Stand p l e room_1 s m #[(.int p0), (.int p1), (.int p2)] below meth c T4 _ 0 0 := X'
    clear X' N' e'
    show own_E p e below Qq T4 (mkF m 36 #[.val (.int x0), .val (.int x1), .val (.int x2), .val (.int x3), .val (.int y4), .unset, .unset, .unset, .unset, .unset] [(.int (F2_0 x0 x3)), (.int (F1_0 x0 y4))])
    by_cases q36 : (F1_0 x0 y4) = (F2_0 x0 x3)
    · replace hF := hF.trans (if_pos q36)
      refine own_st (fun _ => XS.icmpNo X.here hx rfl (hb hby at_36) rfl (XT.ii_ne_f q36)) ?_
      show own_E p e below Qq T4 (mkF m 39 #[.val (.int x0), .val (.int x1), .val (.int x2), .val (.int x3), .val (.int y4), .unset, .unset, .unset, .unset, .unset] [])
      refine own_st (fun _ => XS.iconst X.here hx rfl (hb hby at_39)) ?_
      show own_E p e below Qq T4 (mkF m 40 #[.val (.int x0), .val (.int x1), .val (.int x2), .val (.int x3), .val (.int y4), .unset, .unset, .unset, .unset, .unset] [(.int (1 : Int32))])
      refine own_st (fun _ => XS.goto X.here hx rfl (pc0 := 40) (pc' := 44) rfl (hb hby at_40) (by decide) (by decide)) ?_
      show own_E p e below Qq T4 (mkF m 44 #[.val (.int x0), .val (.int x1), .val (.int x2), .val (.int x3), .val (.int y4), .unset, .unset, .unset, .unset, .unset] [(.int (1 : Int32))])
      exact B44 _ _ x0 x1 x2 x3 y4 (1 : Int32) X eT N hF (by first | exact hP | decide)
    · replace hF := hF.trans (if_neg q36)
      refine own_st (fun _ => XS.icmpYes X.here hx rfl (pc0 := 36) (pc' := 43) rfl (hb hby at_36) rfl (XT.ii_ne_t q36) (by decide) (by decide)) ?_
      show own_E p e below Qq T4 (mkF m 43 #[.val (.int x0), .val (.int x1), .val (.int x2), .val (.int x3), .val (.int y4), .unset, .unset, .unset, .unset, .unset] [])
      refine own_st (fun _ => XS.iconst X.here hx rfl (hb hby at_43)) ?_
      show own_E p e below Qq T4 (mkF m 44 #[.val (.int x0), .val (.int x1), .val (.int x2), .val (.int x3), .val (.int y4), .unset, .unset, .unset, .unset, .unset] [(.int (0 : Int32))])
      exact B44 _ _ x0 x1 x2 x3 y4 (0 : Int32) X eT N hF (by first | exact hP | decide)
  have B11 : ∀ (T : State) (L : List Loc) (x0 : Int32) (x1 : Int32) (x2 : Int32) (y3 : Int32), Stand p l e room_1 s m #[(.int p0), (.int p1), (.int p2)] below meth c T L 0 0 → T.heap = h0 → Fr n0 L → w = F0_11 x0 x1 x2 y3 → own_E p e below Qq T (mkF m 11 #[.val (.int x0), .val (.int x1), .val (.int x2), .unset, .unset, .unset, .unset, .unset, .unset, .unset] [(.int y3)]) := by
    intro T L x0 x1 x2 y3 X eT N hF
    refine own_st (fun _ => XS.istoreN X.here hx rfl (hb hby at_11) rfl (l' := #[.val (.int x0), .val (.int x1), .val (.int x2), .val (.int y3), .unset, .unset, .unset, .unset, .unset, .unset]) rfl) ?_
    show own_E p e below Qq T (mkF m 12 #[.val (.int x0), .val (.int x1), .val (.int x2), .val (.int y3), .unset, .unset, .unset, .unset, .unset, .unset] [])
    refine own_st (fun _ => XS.iloadN X.here hx rfl (hb hby at_12) rfl) ?_
    show own_E p e below Qq T (mkF m 13 #[.val (.int x0), .val (.int x1), .val (.int x2), .val (.int y3), .unset, .unset, .unset, .unset, .unset, .unset] [(.int y3)])
    by_cases q13 : y3 = (0 : Int32)
    · replace hF := hF.trans (if_pos q13)
      refine own_st (fun _ => XS.ifYes X.here hx rfl (pc0 := 13) (pc' := 21) rfl (hb hby at_13) rfl (XT.i0_eq_t q13) (by decide) (by decide)) ?_
      show own_E p e below Qq T (mkF m 21 #[.val (.int x0), .val (.int x1), .val (.int x2), .val (.int y3), .unset, .unset, .unset, .unset, .unset, .unset] [])
      refine own_st (fun _ => XS.bipush X.here hx rfl (hb hby at_21)) ?_
      show own_E p e below Qq T (mkF m 23 #[.val (.int x0), .val (.int x1), .val (.int x2), .val (.int y3), .unset, .unset, .unset, .unset, .unset, .unset] [(.int (10 : Int32))])
      exact B23 _ _ x0 x1 x2 y3 (10 : Int32) X eT N hF (by first | exact hP | decide)
    · replace hF := hF.trans (if_neg q13)
      refine own_st (fun _ => XS.ifNo X.here hx rfl (hb hby at_13) rfl (XT.i0_eq_f q13)) ?_
      show own_E p e below Qq T (mkF m 16 #[.val (.int x0), .val (.int x1), .val (.int x2), .val (.int y3), .unset, .unset, .unset, .unset, .unset, .unset] [])
      refine own_st (fun _ => XS.bipush X.here hx rfl (hb hby at_16)) ?_
      show own_E p e below Qq T (mkF m 18 #[.val (.int x0), .val (.int x1), .val (.int x2), .val (.int y3), .unset, .unset, .unset, .unset, .unset, .unset] [(.int (16 : Int32))])
      refine own_st (fun _ => XS.goto X.here hx rfl (pc0 := 18) (pc' := 23) rfl (hb hby at_18) (by decide) (by decide)) ?_
      show own_E p e below Qq T (mkF m 23 #[.val (.int x0), .val (.int x1), .val (.int x2), .val (.int y3), .unset, .unset, .unset, .unset, .unset, .unset] [(.int (16 : Int32))])
      exact B23 _ _ x0 x1 x2 y3 (16 : Int32) X eT N hF (by first | exact hP | decide)
  show own_E p e below Qq T (mkF m 0 #[.val (.int p0), .val (.int p1), .val (.int p2), .unset, .unset, .unset, .unset, .unset, .unset, .unset] [])
  refine own_st (fun _ => XS.iloadN X.here hx rfl (hb hby at_0) rfl) ?_
  show own_E p e below Qq T (mkF m 1 #[.val (.int p0), .val (.int p1), .val (.int p2), .unset, .unset, .unset, .unset, .unset, .unset, .unset] [(.int p1)])
  refine own_st (fun _ => XS.iconst X.here hx rfl (hb hby at_1)) ?_
  show own_E p e below Qq T (mkF m 2 #[.val (.int p0), .val (.int p1), .val (.int p2), .unset, .unset, .unset, .unset, .unset, .unset, .unset] [(.int (1 : Int32)), (.int p1)])
  refine own_st (fun _ => XS.iand X.here hx rfl (hb hby at_2) rfl) ?_
  show own_E p e below Qq T (mkF m 3 #[.val (.int p0), .val (.int p1), .val (.int p2), .unset, .unset, .unset, .unset, .unset, .unset, .unset] [(.int (p1 &&& (1 : Int32)))])
  by_cases q3 : (p1 &&& (1 : Int32)) = (0 : Int32)
  · replace hF := hF.trans (if_pos q3)
    refine own_st (fun _ => XS.ifYes X.here hx rfl (pc0 := 3) (pc' := 10) rfl (hb hby at_3) rfl (XT.i0_eq_t q3) (by decide) (by decide)) ?_
    show own_E p e below Qq T (mkF m 10 #[.val (.int p0), .val (.int p1), .val (.int p2), .unset, .unset, .unset, .unset, .unset, .unset, .unset] [])
    refine own_st (fun _ => XS.iconst X.here hx rfl (hb hby at_10)) ?_
    show own_E p e below Qq T (mkF m 11 #[.val (.int p0), .val (.int p1), .val (.int p2), .unset, .unset, .unset, .unset, .unset, .unset, .unset] [(.int (0 : Int32))])
    exact B11 _ _ p0 p1 p2 (0 : Int32) X eT N hF
  · replace hF := hF.trans (if_neg q3)
    refine own_st (fun _ => XS.ifNo X.here hx rfl (hb hby at_3) rfl (XT.i0_eq_f q3)) ?_
    show own_E p e below Qq T (mkF m 6 #[.val (.int p0), .val (.int p1), .val (.int p2), .unset, .unset, .unset, .unset, .unset, .unset, .unset] [])
    refine own_st (fun _ => XS.iconst X.here hx rfl (hb hby at_6)) ?_
    show own_E p e below Qq T (mkF m 7 #[.val (.int p0), .val (.int p1), .val (.int p2), .unset, .unset, .unset, .unset, .unset, .unset, .unset] [(.int (1 : Int32))])
    refine own_st (fun _ => XS.goto X.here hx rfl (pc0 := 7) (pc' := 11) rfl (hb hby at_7) (by decide) (by decide)) ?_
    show own_E p e below Qq T (mkF m 11 #[.val (.int p0), .val (.int p1), .val (.int p2), .unset, .unset, .unset, .unset, .unset, .unset, .unset] [(.int (1 : Int32))])
    exact B11 _ _ p0 p1 p2 (1 : Int32) X eT N hF
theorem own_nat (v : Int32) (h0 : 0 ≤ v.toInt) : v = Int32.ofNat v.toInt.toNat := by
  apply Int32.toInt_inj.mp
  have h2 := v.toInt_lt
  rw [Int32.toInt_ofNat_of_lt (by omega)]
  omega
theorem own_t16 : ∀ n : Fin 103, F1_0 (Int32.ofNat n.1) 16 = F2_0 (Int32.ofNat n.1) 1 := by decide +kernel
theorem own_t10 : ∀ n : Fin 103, F1_0 (Int32.ofNat n.1) 10 = F2_0 (Int32.ofNat n.1) 0 := by decide +kernel
theorem own_out (c : Int32) (h : c.toInt < 0 ∨ 102 < c.toInt) : F1_0 c 16 = -1 ∧ F2_0 c 1 = -1 ∧ F1_0 c 10 = -1 ∧ F2_0 c 0 = -1 := by
  have o : (c ||| (32 : Int32)) < 97 ∨ (102 : Int32) < (c ||| (32 : Int32)) := by
    rcases h with h | h
    · left
      have := (c_orS c 32).2.1 h
      rw [Int32.lt_iff_toInt_lt]
      exact Int.lt_trans this (by decide)
    · right
      have := (c_or0 c 32 (by omega) (by decide)).1
      rw [Int32.lt_iff_toInt_lt]
      exact Int.lt_of_lt_of_le h this
  have a1 : c < 48 ∨ (57 : Int32) < c := by
    rcases h with h | h
    · left; rw [Int32.lt_iff_toInt_lt]; exact Int.lt_trans h (by decide)
    · right; rw [Int32.lt_iff_toInt_lt]; exact Int.lt_trans (by decide) h
  have a2 : c < 97 ∨ (102 : Int32) < c := by
    rcases h with h | h
    · left; rw [Int32.lt_iff_toInt_lt]; exact Int.lt_trans h (by decide)
    · right; rw [Int32.lt_iff_toInt_lt]; exact h
  have a3 : c < 65 ∨ (70 : Int32) < c := by
    rcases h with h | h
    · left; rw [Int32.lt_iff_toInt_lt]; exact Int.lt_trans h (by decide)
    · right; rw [Int32.lt_iff_toInt_lt]; exact Int.lt_trans (by decide) h
  have out : ∀ {P R : Prop} [Decidable P] [Decidable R] {u v : Int32}, P ∨ R → (if P then u else if R then u else v) = u := by
    intro P R _ _ u v q
    by_cases q1 : P
    · rw [if_pos q1]
    · rw [if_neg q1, if_pos (q.resolve_left q1)]
  have f51 : ∀ r : Int32, F1_51 c r (-1) = -1 := fun r => by
    unfold F1_51
    split
    · exact out a3
    · rfl
  have f22 : ∀ r : Int32, F1_22 c r (-1) = -1 := fun r => by
    unfold F1_22
    split
    · rw [out a2]; exact f51 r
    · exact f51 r
  have f1 : ∀ r : Int32, F1_0 c r = -1 := fun r => by
    rw [F1_0, out a1]; exact f22 r
  have g17 : ∀ r : Int32, F2_17 c r = -1 := fun r => by
    unfold F2_17
    split
    · rfl
    · exact out o
  have g1 : ∀ r : Int32, F2_0 c r = -1 := fun r => by
    rw [F2_0, out a1]; exact g17 r
  exact ⟨f1 _, g1 _, f1 _, g1 _⟩
theorem own_d16 (c : Int32) : F1_0 c 16 = F2_0 c 1 := by
  by_cases h : c.toInt < 0 ∨ 102 < c.toInt
  · obtain ⟨a, b, -, -⟩ := own_out c h; rw [a, b]
  · rw [own_nat c (by omega)]; exact own_t16 ⟨c.toInt.toNat, by omega⟩
theorem own_d10 (c : Int32) : F1_0 c 10 = F2_0 c 0 := by
  by_cases h : c.toInt < 0 ∨ 102 < c.toInt
  · obtain ⟨-, -, a, b⟩ := own_out c h; rw [a, b]
  · rw [own_nat c (by omega)]; exact own_t10 ⟨c.toInt.toNat, by omega⟩
theorem own_b16 : ∀ n : Fin 16, F0_78 0 0 0 0 16 1 (Int32.ofNat n.1) (if Int32.ofNat n.1 < 10 then 48 + Int32.ofNat n.1 else 97 + (Int32.ofNat n.1 - 10)) = 1 := by decide +kernel
theorem own_b10 : ∀ n : Fin 10, F0_78 0 0 0 0 10 1 (Int32.ofNat n.1) (if Int32.ofNat n.1 < 10 then 48 + Int32.ofNat n.1 else 97 + (Int32.ofNat n.1 - 10)) = 1 := by decide +kernel
theorem own_back (x0 x1 x2 x3 r : Int32) (hr : r = 10 ∨ r = 16) : F0_44 x0 x1 x2 x3 r 1 = 1 := by
  have m0 : (x2 &&& (2147483647 : Int32)).toInt = x2.toInt % (2 ^ 31 : Nat) := c_mask x2 2147483647 31 (by decide) (by decide)
  have rt := rem_toInt (x2 &&& (2147483647 : Int32)) r
  have e : ∀ v : Int32, F0_44 x0 x1 x2 x3 r 1 = F0_78 0 0 0 0 r 1 ((x2 &&& (2147483647 : Int32)) - ((x2 &&& (2147483647 : Int32)) / r) * r) (if ((x2 &&& (2147483647 : Int32)) - ((x2 &&& (2147483647 : Int32)) / r) * r) < (10 : Int32) then ((48 : Int32) + ((x2 &&& (2147483647 : Int32)) - ((x2 &&& (2147483647 : Int32)) / r) * r)) else ((97 : Int32) + (((x2 &&& (2147483647 : Int32)) - ((x2 &&& (2147483647 : Int32)) / r) * r) - (10 : Int32)))) := fun _ => by
    unfold F0_44
    split <;> rfl
  rw [e 0]
  have nn : 0 ≤ (x2 &&& (2147483647 : Int32)).toInt := by omega
  rw [Int.tmod_eq_emod_of_nonneg nn] at rt
  generalize ((x2 &&& (2147483647 : Int32)) - ((x2 &&& (2147483647 : Int32)) / r) * r) = v at *
  rcases hr with rfl | rfl
  · have d : (10 : Int32).toInt = 10 := rfl
    rw [d] at rt
    rw [own_nat v (by omega)]; exact own_b10 ⟨v.toInt.toNat, by omega⟩
  · have d : (16 : Int32).toInt = 16 := rfl
    rw [d] at rt
    rw [own_nat v (by omega)]; exact own_b16 ⟨v.toInt.toNat, by omega⟩
theorem own_law (p0 p1 p2 : Int32) : F0_0 p0 p1 p2 = 1 := by
  unfold F0_0
  split
  · rw [F0_11, if_pos rfl, F0_23, if_pos (own_d10 p0)]; exact own_back _ _ _ _ _ (Or.inl rfl)
  · rw [F0_11, if_neg (by decide), F0_23, if_pos (own_d16 p0)]; exact own_back _ _ _ _ _ (Or.inr rfl)
set_option maxRecDepth 65536 in
set_option maxHeartbeats 40000000 in
theorem comes_1 {Post : Tables → Env → Array Value → State → Outcome → State → Prop} (hpost : ∀ tb e args s v u, (limb_1_1.after args s (.returned v) u = true ∧ limb_1_2.after args s (.returned v) u = true ∧ True) → FrameEnd s (.returned v) u (Jvm.fieldLocs frame_1_writes args s ++ Jvm.arrayLocs frame_1_arrays args s ++ Jvm.staticLocs frame_1_statics s) 0 0 → Post tb e args s (.returned v) u) :
    ArmFor flags0 classFile x code maxLocals ret World_1 tables_1 room_1 Calls_1 rest_1 Pre_1 Post := by
  intro l hfl _ _ p e ha hc hk s m args below hf hA hF happ hP
  obtain ⟨hcalls, hrest, hpre⟩ := hP
  obtain ⟨-, -, -, hnamed, -, -, -, hat⟩ := (Spec.applies_iff hf).mp happ
  obtain ⟨hg, hn⟩ := and_e (Cond.before_iff.mp (show (Jvm.Cond.and given_1 narrow_1).before args s = true from hpre))
  obtain ⟨g0, hg⟩ := and_e hg
  obtain ⟨w0, w1, w2, rfl⟩ : ∃ w0 w1 w2 : Value, args = #[w0, w1, w2] := by
    have hs : args.size = 3 := by simpa [Cond.value, given_1] using g0
    obtain ⟨L⟩ := args
    match L, hs with
    | [w0, w1, w2], _ => exact ⟨w0, w1, w2, rfl⟩
  have hw := fun d (hd : d ∈ tables_1) => atoms_spec (ws := Jvm.Cond.code x code maxLocals ret :: tables_1) hat d (List.mem_cons_of_mem _ hd)
  obtain ⟨g1, hg⟩ := and_e hg
  obtain ⟨g2, hg⟩ := and_e hg
  have g3 := hg
  obtain ⟨i0, e0⟩ := is_v g1
  obtain rfl : w0 = (.int i0) := Option.some.inj e0
  obtain ⟨i1, e1⟩ := is_v g2
  obtain rfl : w1 = (.int i1) := Option.some.inj e1
  obtain ⟨i2, e2⟩ := is_v g3
  obtain rfl : w2 = (.int i2) := Option.some.inj e2
  obtain ⟨n, o, h1, h2, h3, _, L, rfl, ⟨rfl, N, _⟩, hq⟩ := rm0 l s _ hw i0 i1 i2 s.heap s.heap.size (Nat.le_refl _) tables_1 p e ha hc hk s m _ below hf ((Spec.applies_iff_loose hf).mp happ).1 ⟨rfl, State.Warmed39.refl s, rfl⟩ trivial
  refine ⟨n, _, h1, h2, h3, hpost _ _ _ _ _ _ ⟨Cond.after_iff.mpr rfl, Cond.after_iff.mpr (eq_i res_at (Term.int_eval (1)) (by rw [own_law i0 i1 i2]) rfl), trivial⟩ ⟨hq.1, hq.2.1, (hq.2.2.sift fun y hy => Or.inr (N y hy)).mono (by decide) (by decide)⟩⟩
theorem main_1_1 : Claimed_1_1 := comes_1 fun _ _ _ _ _ _ h hF => ⟨h.1, hF⟩
theorem main_1_2 : Claimed_1_2 := comes_1 fun _ _ _ _ _ _ h hF => ⟨h.2.1, hF⟩
end Jvm.Pilot.@@N@@
namespace Jvm.Pilot.@@N@@
open Jvm Jvm.ClassFile Sem Op Lib Jvm.Free Jvm.Stand Jvm.Pilot.@@N@@.Jvm.D
/-! MADE BY PROGRAM (witnessworld.py) out of the Statement's table words and the real class files: 9 classes; the members and pool entries that the words name. The judged class is class 1, her method 2. -/
namespace start1
open Jvm.ClassFile
def u (s : String) : CpInfo := .utf8 (stringToUtf16 s)
/-- a pool by its gaps: so many unusable entries, then the entry; so many at the end -/
def gap : Nat → List CpInfo → List CpInfo
  | 0, r => r
  | n + 1, r => .unusable :: gap n r
def poolList (es : List (Nat × CpInfo)) (last : Nat) : List CpInfo := es.foldr (fun e r => gap e.1 (e.2 :: r)) (gap last [])
def pool (es : List (Nat × CpInfo)) (last : Nat) : Array CpInfo := ⟨poolList es last⟩
def fileOf (pool : Array CpInfo) (this : Nat) (attrs : Array Attribute := #[]) (ms : Array MethodInfo := #[]) (fl : Nat := 33) (sup : Nat := 0) (ifs : Array Nat := #[]) (fds : Array FieldInfo := #[]) : ClassFile where
  minorVersion := 0
  majorVersion := 65
  constantPool := pool
  accessFlags := fl
  thisClass := this
  superClass := sup
  interfaces := ifs
  fields := fds
  methods := ms
  attributes := attrs
def plain (name : String) (sup : Option ClassId) : Class where
  name := name
  kind := .ordinary
  loader := none
  accessFlags := 33
  super := sup
  interfaces := #[]
  cf := none
  fields := #[]
  methods := #[]
  instanceTypes := #[]
  staticTypes := #[]
  resolved := #[]
  callSites := []
  init := .initialized
  statics := none
  mirror := none

def pool0 : Array CpInfo := pool [(5, u "<init>"), (0, u "()V"), (1, .class_ 10), (1, u "java/lang/Object")] 113

def k0m0 : Method := { name := "<init>", desc := "()V", sig := { parameters := [], returnType := none }, accessFlags := 1, code := none }
/-- java/lang/Object -/
def k0 : Class := { plain "java/lang/Object" none with
  accessFlags := 33
  interfaces := #[]
  cf := some (fileOf pool0 8 #[] #[{ accessFlags := 1, nameIndex := 5, descriptorIndex := 6, attributes := #[] }] 33 0 #[] #[])
  fields := #[]
  methods := #[k0m0]
  instanceTypes := #[]
  staticTypes := #[]
  resolved := Array.replicate 124 none
  statics := none }

def pool1 : Array CpInfo := pool [(2, .class_ 4), (1, u "java/lang/Object"), (0, u "<init>"), (0, u "()V"), (0, .methodref 8 9), (0, .class_ 10), (0, .nameAndType 11 12), (0, u "com/example/kinglet/kinglet/MarkupInput"), (0, u "digitValue"), (0, u "(II)I"), (0, .methodref 14 15), (0, .class_ 16), (0, .nameAndType 17 18), (0, u "com/example/kinglet/kinglet/MarkupInputDigitValuePinLaw"), (0, u "expected"), (0, u "(IZ)I"), (0, .integer 2147483647), (3, u "law"), (0, u "(III)Z")] 2

def k1m0 : Method := { name := "<init>", desc := "()V", sig := { parameters := [], returnType := none }, accessFlags := 2, code := none }
def k1c1 : Code := { maxStack := 2, maxLocals := 3, code := method_2_code, exceptionTable := #[], attributes := #[] }
def k1m1 : Method := { name := "expected", desc := "(IZ)I", sig := { parameters := [.int, .boolean], returnType := some .int }, accessFlags := 10, code := some k1c1 }
def k1c2 : Code := { maxStack := 3, maxLocals := 10, code := code, exceptionTable := #[], attributes := #[] }
def k1m2 : Method := { name := "law", desc := "(III)Z", sig := { parameters := [.int, .int, .int], returnType := some .boolean }, accessFlags := 9, code := some k1c2 }
/-- com/example/kinglet/kinglet/MarkupInputDigitValuePinLaw -/
def k1 : Class := { plain "com/example/kinglet/kinglet/MarkupInputDigitValuePinLaw" (some 0) with
  accessFlags := 49
  interfaces := #[]
  cf := some (fileOf pool1 14 #[] #[{ accessFlags := 2, nameIndex := 5, descriptorIndex := 6, attributes := #[] }, { accessFlags := 10, nameIndex := 17, descriptorIndex := 18, attributes := #[] }, { accessFlags := 9, nameIndex := 23, descriptorIndex := 24, attributes := #[] }] 49 2 #[] #[])
  fields := #[]
  methods := #[k1m0, k1m1, k1m2]
  instanceTypes := #[]
  staticTypes := #[]
  resolved := Array.replicate 27 none
  statics := none }

def pool2 : Array CpInfo := pool [(2, .class_ 4), (1, u "java/lang/Object"), (6, .class_ 13), (1, u "com/example/kinglet/kinglet/MarkupInput"), (0, u "text"), (0, u "Ljava/lang/StringBuilder;"), (2, u "run"), (0, u "[C"), (2, u "name"), (2, u "value"), (2, u "names"), (0, u "Lcom/example/kinglet/kinglet/NameTable;"), (2, u "dtd"), (0, u "Lcom/example/kinglet/kinglet/Dtd;"), (2, u "markupLimit"), (0, u "Lcom/example/kinglet/kinglet/MarkupLimit;"), (2, u "errorHandler"), (0, u "Lcom/example/kinglet/kinglet/MarkupErrorHandler;"), (2, u "validating"), (0, u "Z"), (2, u "namespaceAware"), (2, u "commentsReported"), (2, u "document"), (0, u "Lcom/example/kinglet/kinglet/TextInput;"), (7, u "stack"), (0, u "Lcom/example/kinglet/kinglet/EntityStack;"), (2, u "in"), (0, u "Lcom/example/kinglet/kinglet/CharacterInput;"), (143, u "DATA_STOPS"), (0, u "[Z"), (6, u "CDATA_STOPS"), (54, u "(II)I"), (10, u "PREDEFINED_ENTITIES"), (0, u "[Ljava/lang/String;"), (50, u "DOUBLE_QUOTED_STOPS"), (2, u "SINGLE_QUOTED_STOPS"), (6, u "valueLength"), (0, u "I"), (42, u "digitValue"), (67, u "COMMENT_STOPS"), (39, u "PREDEFINED_CHARACTERS"), (0, u "Ljava/lang/String;")] 71

def k2c0 : Code := { maxStack := 2, maxLocals := 3, code := prog_73_method_51_code, exceptionTable := #[], attributes := #[] }
def k2m0 : Method := { name := "digitValue", desc := "(II)I", sig := { parameters := [.int, .int], returnType := some .int }, accessFlags := 8, code := some k2c0 }
/-- com/example/kinglet/kinglet/MarkupInput -/
def k2 : Class := { plain "com/example/kinglet/kinglet/MarkupInput" (some 0) with
  accessFlags := 32
  interfaces := #[]
  cf := some (fileOf pool2 11 #[] #[{ accessFlags := 8, nameIndex := 392, descriptorIndex := 275, attributes := #[] }] 32 2 #[] #[{ accessFlags := 26, nameIndex := 212, descriptorIndex := 213, attributes := #[] }, { accessFlags := 26, nameIndex := 220, descriptorIndex := 213, attributes := #[] }, { accessFlags := 26, nameIndex := 460, descriptorIndex := 213, attributes := #[] }, { accessFlags := 26, nameIndex := 338, descriptorIndex := 213, attributes := #[] }, { accessFlags := 26, nameIndex := 341, descriptorIndex := 213, attributes := #[] }, { accessFlags := 24, nameIndex := 286, descriptorIndex := 287, attributes := #[] }, { accessFlags := 24, nameIndex := 500, descriptorIndex := 501, attributes := #[] }, { accessFlags := 18, nameIndex := 14, descriptorIndex := 15, attributes := #[] }, { accessFlags := 18, nameIndex := 18, descriptorIndex := 19, attributes := #[] }, { accessFlags := 2, nameIndex := 22, descriptorIndex := 19, attributes := #[] }, { accessFlags := 2, nameIndex := 25, descriptorIndex := 19, attributes := #[] }, { accessFlags := 2, nameIndex := 348, descriptorIndex := 349, attributes := #[] }, { accessFlags := 18, nameIndex := 28, descriptorIndex := 29, attributes := #[] }, { accessFlags := 18, nameIndex := 32, descriptorIndex := 33, attributes := #[] }, { accessFlags := 18, nameIndex := 36, descriptorIndex := 37, attributes := #[] }, { accessFlags := 18, nameIndex := 40, descriptorIndex := 41, attributes := #[] }, { accessFlags := 18, nameIndex := 44, descriptorIndex := 45, attributes := #[] }, { accessFlags := 18, nameIndex := 48, descriptorIndex := 45, attributes := #[] }, { accessFlags := 18, nameIndex := 51, descriptorIndex := 45, attributes := #[] }, { accessFlags := 18, nameIndex := 54, descriptorIndex := 55, attributes := #[] }, { accessFlags := 18, nameIndex := 63, descriptorIndex := 64, attributes := #[] }, { accessFlags := 2, nameIndex := 67, descriptorIndex := 68, attributes := #[] }])
  fields := #[{ name := "DATA_STOPS", type := (.array .boolean), accessFlags := 26, slot := 0, constantValue := 0 }, { name := "CDATA_STOPS", type := (.array .boolean), accessFlags := 26, slot := 1, constantValue := 0 }, { name := "COMMENT_STOPS", type := (.array .boolean), accessFlags := 26, slot := 2, constantValue := 0 }, { name := "DOUBLE_QUOTED_STOPS", type := (.array .boolean), accessFlags := 26, slot := 3, constantValue := 0 }, { name := "SINGLE_QUOTED_STOPS", type := (.array .boolean), accessFlags := 26, slot := 4, constantValue := 0 }, { name := "PREDEFINED_ENTITIES", type := (.array (.object "java/lang/String")), accessFlags := 24, slot := 5, constantValue := 0 }, { name := "PREDEFINED_CHARACTERS", type := (.object "java/lang/String"), accessFlags := 24, slot := 6, constantValue := 0 }, { name := "text", type := (.object "java/lang/StringBuilder"), accessFlags := 18, slot := 0, constantValue := 0 }, { name := "run", type := (.array .char), accessFlags := 18, slot := 1, constantValue := 0 }, { name := "name", type := (.array .char), accessFlags := 2, slot := 2, constantValue := 0 }, { name := "value", type := (.array .char), accessFlags := 2, slot := 3, constantValue := 0 }, { name := "valueLength", type := .int, accessFlags := 2, slot := 4, constantValue := 0 }, { name := "names", type := (.object "com/example/kinglet/kinglet/NameTable"), accessFlags := 18, slot := 5, constantValue := 0 }, { name := "dtd", type := (.object "com/example/kinglet/kinglet/Dtd"), accessFlags := 18, slot := 6, constantValue := 0 }, { name := "markupLimit", type := (.object "com/example/kinglet/kinglet/MarkupLimit"), accessFlags := 18, slot := 7, constantValue := 0 }, { name := "errorHandler", type := (.object "com/example/kinglet/kinglet/MarkupErrorHandler"), accessFlags := 18, slot := 8, constantValue := 0 }, { name := "validating", type := .boolean, accessFlags := 18, slot := 9, constantValue := 0 }, { name := "namespaceAware", type := .boolean, accessFlags := 18, slot := 10, constantValue := 0 }, { name := "commentsReported", type := .boolean, accessFlags := 18, slot := 11, constantValue := 0 }, { name := "document", type := (.object "com/example/kinglet/kinglet/TextInput"), accessFlags := 18, slot := 12, constantValue := 0 }, { name := "stack", type := (.object "com/example/kinglet/kinglet/EntityStack"), accessFlags := 18, slot := 13, constantValue := 0 }, { name := "in", type := (.object "com/example/kinglet/kinglet/CharacterInput"), accessFlags := 2, slot := 14, constantValue := 0 }]
  methods := #[k2m0]
  instanceTypes := #[(.object "java/lang/StringBuilder"), (.array .char), (.array .char), (.array .char), .int, (.object "com/example/kinglet/kinglet/NameTable"), (.object "com/example/kinglet/kinglet/Dtd"), (.object "com/example/kinglet/kinglet/MarkupLimit"), (.object "com/example/kinglet/kinglet/MarkupErrorHandler"), .boolean, .boolean, .boolean, (.object "com/example/kinglet/kinglet/TextInput"), (.object "com/example/kinglet/kinglet/EntityStack"), (.object "com/example/kinglet/kinglet/CharacterInput")]
  staticTypes := #[(.array .boolean), (.array .boolean), (.array .boolean), (.array .boolean), (.array .boolean), (.array (.object "java/lang/String")), (.object "java/lang/String")]
  resolved := Array.replicate 573 none
  statics := none }

def pool3 : Array CpInfo := pool [(1, u "java/lang/Cloneable"), (0, .class_ 1), (0, u "java/lang/Object"), (0, .class_ 3)] 3

/-- java/lang/Cloneable -/
def k3 : Class := { plain "java/lang/Cloneable" (some 0) with
  accessFlags := 1537
  interfaces := #[]
  cf := some (fileOf pool3 2 #[] #[] 1537 4 #[] #[])
  fields := #[]
  methods := #[]
  instanceTypes := #[]
  staticTypes := #[]
  resolved := Array.replicate 8 none
  statics := none }

def pool4 : Array CpInfo := pool [(1, u "java/io/Serializable"), (0, .class_ 1), (0, u "java/lang/Object"), (0, .class_ 3)] 3

/-- java/io/Serializable -/
def k4 : Class := { plain "java/io/Serializable" (some 0) with
  accessFlags := 1537
  interfaces := #[]
  cf := some (fileOf pool4 2 #[] #[] 1537 4 #[] #[])
  fields := #[]
  methods := #[]
  instanceTypes := #[]
  staticTypes := #[]
  resolved := Array.replicate 8 none
  statics := none }

/-- the primitive byte -/
def k5 : Class := { plain "byte" none with kind := .primitive 'B', accessFlags := 0x411 }
/-- [B -/
def k6 : Class := { plain "[B" (some 0) with kind := .array 5 .byte, interfaces := #[3, 4], accessFlags := 1041 }

/-- the primitive int -/
def k7 : Class := { plain "int" none with kind := .primitive 'I', accessFlags := 0x411 }
/-- [I -/
def k8 : Class := { plain "[I" (some 0) with kind := .array 7 .int, interfaces := #[3, 4], accessFlags := 1041 }

def heap : Heap := #[]
def classes : Array Class := #[k0, k1, k2, k3, k4, k5, k6, k7, k8]
def interned : List (Array UInt16 × Addr) := []
def slotsUsed : Nat := 0
def theMethod : MethodId := ⟨1, 2⟩
def args0 : Array Value := #[.int 5, .int 5, .int 5]
def aboutOver (below : List Frame) : State where
  vm := { classes := classes, interned := interned.toArray }
  heap := heap
  slotsUsed := slotsUsed
  threads := #[{ frames := .invoking theMethod args0 :: below }]
def below0 : List Frame := [.native { method := ⟨0, 0⟩, args := #[] }]
def about1 : State := aboutOver below0
def p0 : Program := .bare "" "" ""
def e0 : Env := launch0.env 0 0 0
theorem w_frames : about1.frames = Frame.invoking theMethod args0 :: below0 := rfl
set_option maxRecDepth 65536 in
theorem w_args : argsFit about1.vm theMethod args0 = true := by decide +kernel
set_option maxRecDepth 65536 in
theorem w_heap : heapFits about1 = true := by decide +kernel
set_option maxRecDepth 65536 in
theorem w_runnable : about1.curStatus? = some .runnable := by decide +kernel
set_option maxRecDepth 65536 in
theorem w_alone : about1.alone = true := by decide +kernel
set_option maxRecDepth 65536 in
theorem w_named : about1.methodNamed? x = some theMethod := by decide +kernel
set_option maxRecDepth 65536 in
theorem w_hears : about1.hears theMethod below0 = true := by decide +kernel
set_option maxRecDepth 65536 in
theorem w_ripe : about1.ripe theMethod args0 below0 = true := by decide +kernel
theorem w_running : about1.status = .running := rfl
set_option maxRecDepth 65536 in
theorem w_room : about1.hasRoom e0.platform room_1 = true :=
  launch0.hasRoom_least _ room_1 (by decide +kernel) (by decide +kernel) (by decide +kernel) (by decide +kernel) (by decide +kernel) (by decide +kernel)
theorem allAtoms_all (ts : List Jvm.Cond) (a : Array Jvm.Value) (st : Jvm.State) : (allAtoms ts).before a st = ts.all (fun c => c.before a st) := by
  induction ts with
  | nil => rfl
  | cons c t ih =>
    show (Jvm.Cond.and c (allAtoms t)).before a st = _
    rw [Jvm.Cond.before_and, ih, List.all_cons]
def words1 : List Jvm.Cond := Jvm.Cond.code x code maxLocals ret :: tables_1
/-- a 'code' word, met by the world's own term for the bytes: nothing is compared byte by byte -/
theorem code_word {y : MethodName} {bytes : ByteArray} {mx : Nat} {rt : Option FieldType} {a : Array Value} {s : State} {m : MethodId} {meth : Method} {c : Code} (h1 : s.methodNamed? y = some m) (h2 : s.vm.method? m = some meth) (h3 : meth.code = some c) (h4 : c.code = bytes)
    (h5 : (c.maxLocals == mx && c.exceptionTable.isEmpty && decide (c.maxStack ≤ mostOperands) && decide (meth.sig.returnType = rt) && !meth.locks && decide (parseMethodDescriptor y.desc = some meth.sig)) = true) : (Jvm.Cond.code y bytes mx rt).before a s = true := by
  simp only [Bool.and_eq_true, beq_iff_eq, Bool.not_eq_true', decide_eq_true_eq] at h5
  obtain ⟨⟨⟨⟨⟨g1, g2⟩, g3⟩, g4⟩, g5⟩, g6⟩ := h5
  simp [Cond.before, Cond.holds, Cond.value, h1, h2, h3, h4, g1, g2, g3, g4, g5, g6]
def isCode : Jvm.Cond → Bool
  | .code _ _ _ _ => true
  | _ => false
theorem all_split {L : List Jvm.Cond} {P : Jvm.Cond → Bool} (h1 : L.all (fun c => isCode c || P c) = true) (h2 : ∀ c ∈ L.filter isCode, P c = true) : L.all P = true := by
  refine List.all_eq_true.mpr fun c hc => ?_
  have h := List.all_eq_true.mp h1 c hc
  rcases Bool.eq_false_or_eq_true (isCode c) with hi | hi
  · exact h2 c (List.mem_filter.mpr ⟨hc, hi⟩)
  · simpa [hi] using h
set_option maxRecDepth 65536 in
theorem w_c0 : (Jvm.Cond.code x code maxLocals ret).before args0 about1 = true := code_word (m := ⟨1, 2⟩) (meth := k1m2) (c := k1c2) (by decide +kernel) rfl rfl rfl (by decide +kernel)
set_option maxRecDepth 65536 in
theorem w_c1 : (Jvm.Cond.code ({ cls := "com/example/kinglet/kinglet/MarkupInput", name := "digitValue", desc := "(II)I" } : Jvm.MethodName) prog_73_method_51_code (3 : Nat) (Option.some Jvm.ClassFile.FieldType.int)).before args0 about1 = true := code_word (m := ⟨2, 0⟩) (meth := k2m0) (c := k2c0) (by decide +kernel) rfl rfl rfl (by decide +kernel)
set_option maxRecDepth 65536 in
theorem w_c2 : (Jvm.Cond.code ({ cls := "com/example/kinglet/kinglet/MarkupInputDigitValuePinLaw", name := "expected", desc := "(IZ)I" } : Jvm.MethodName) method_2_code (3 : Nat) (Option.some Jvm.ClassFile.FieldType.int)).before args0 about1 = true := code_word (m := ⟨1, 1⟩) (meth := k1m1) (c := k1c1) (by decide +kernel) rfl rfl rfl (by decide +kernel)
def codes1 : List Jvm.Cond := [Jvm.Cond.code x code maxLocals ret, Jvm.Cond.code ({ cls := "com/example/kinglet/kinglet/MarkupInput", name := "digitValue", desc := "(II)I" } : Jvm.MethodName) prog_73_method_51_code (3 : Nat) (Option.some Jvm.ClassFile.FieldType.int), Jvm.Cond.code ({ cls := "com/example/kinglet/kinglet/MarkupInputDigitValuePinLaw", name := "expected", desc := "(IZ)I" } : Jvm.MethodName) method_2_code (3 : Nat) (Option.some Jvm.ClassFile.FieldType.int)]
set_option maxRecDepth 65536 in
theorem codes_eq : words1.filter isCode = codes1 := rfl
theorem w_codes : ∀ c ∈ words1.filter isCode, c.before args0 about1 = true := by
  rw [codes_eq]
  intro c hc
  simp only [codes1, List.mem_cons, List.not_mem_nil, or_false] at hc
  rcases hc with rfl | rfl | rfl
  · exact w_c0
  · exact w_c1
  · exact w_c2
set_option maxRecDepth 65536 in
theorem w_t1 : words1.all (fun c => isCode c || c.before args0 about1) = true := by decide +kernel
theorem w_tables : (allAtoms (Jvm.Cond.code x code maxLocals ret :: tables_1)).before args0 about1 = true := by
  rw [allAtoms_all]
  show words1.all (fun c => c.before args0 about1) = true
  refine all_split ?_ w_codes
  rw [w_t1]
set_option maxRecDepth 65536 in
theorem w_case : (Jvm.Cond.and given_1 narrow_1).before args0 about1 = true := by decide +kernel
theorem w_applies : (headSpec (Jvm.Cond.code x code maxLocals ret :: tables_1) room_1).applies x e0.platform about1 = true :=
  (Spec.applies_iff w_frames).mpr ⟨w_running, w_runnable, w_alone, w_named, w_hears, w_ripe, w_room, w_tables⟩
theorem atStart : AtStart classFile x code maxLocals ret World_1 tables_1 room_1 Calls_1 rest_1 Pre_1 launch0 p0 e0 about1 theMethod args0 below0 :=
  ⟨lists_1, trivial, launch0.admits_env _ _ _, launch0.least_env, fairChoices_fair.cas, fairChoices_fair.clock, w_frames, w_args, w_heap, w_applies, trivial, trivial, w_case⟩
end start1
theorem witness_1 : WitnessClaimed_1 := ⟨start1.p0, start1.e0, start1.about1, start1.theMethod, start1.args0, start1.below0, start1.atStart⟩
end Jvm.Pilot.@@N@@
