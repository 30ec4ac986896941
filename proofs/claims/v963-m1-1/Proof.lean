import JvmDerived
import JvmDerived.Pilot.@@N@@Statement
import JvmDerived.Pilot.@@N@@Code
set_option linter.unusedVariables false
set_option linter.unusedSimpArgs false
namespace Jvm.RoadKit
open Sem ClassFile Op Lib Jvm.Stand Jvm.Free Jvm.LawKit
section New
variable {p : Program} {l : Launch} {e : Env} {R : Room} {s : State} {m : MethodId} {args : Array Value} {below : List Frame} {meth : Method} {c : Code} {T : State} {locs : List Loc} {cells slots : Nat}
theorem retI (X : Stand p l e R s m args below meth c T locs cells slots) (hx : p.tables.exec = Jvm.exec) {pc : Nat} {Ls : Array Slot} {z : Int32} {rest : List Value} (hret : meth.sig.returnType = some .int) (hd : decode c.code pc = .ok (.ireturn, 1)) {fs : List Frame}
    (hl : ∀ (f : JFrame) (acts : List Action), f.method = m → f.locked = none → f.entered = [] → (doReturn e (T.setTop f) acts (some (.int z))).1 = T.setFrames fs) : Steps p.tables e below (T.setTop (mkF m pc Ls (.int z :: rest))) (T.setFrames fs) := by
  have hm' : T.vm.method? m = some meth := X.method'
  have hn : narrow .int (.int z) = .int z := rfl
  show Steps p.tables e below (T.setTop { method := m, pc := pc, locals := Ls, stack := _ :: rest, locked := none }) _
  jvm_step X.here [X.here.top, hx, hd, hm', hret, hn]
  first | (intro acts; rw [hl _ acts rfl rfl rfl]) | rw [hl _ _ rfl rfl rfl]
  exact Steps.refl _
end New
end Jvm.RoadKit
namespace Jvm.Pilot.@@N@@
open Jvm Jvm.ClassFile Sem Op Lib Jvm.Free Jvm.Stand Jvm.LawKit Jvm.RoadKit Bundle Jvm.Pilot.@@N@@.Jvm.D
section Own
variable {p : Program} {l : Launch} {e : Env} {R : Room} {s : State} {m : MethodId} {args : Array Value} {below : List Frame} {meth : Method} {c : Code} {T : State} {locs : List Loc} {k j : Nat} {Z : State} {a0 : Array Value} {h : Heap}
/-- the run that stands at g goes on to an end as Q says -/
def own_E (p : Program) (e : Env) (below : List Frame) (Q : Outcome → State → Prop) (T : State) (g : JFrame) : Prop :=
  ∃ s₂ o, Steps p.tables e below (T.setTop g) s₂ ∧ s₂.status = .running ∧ Ended s₂ below o ∧ Q o s₂
/-- an end as a contract's Qr says, with so many cells and slots at the most -/
def own_Q (s : State) (Qr : Option Value → Heap → List Loc → Prop) (k j : Nat) (o : Outcome) (U : State) : Prop := ∃ v L, o = .returned v ∧ Qr v U.heap L ∧ FrameEnd s o U L k j
/-- a contract of a method at these arguments and this heap -/
def own_M (l : Launch) (Z : State) (y : MethodName) (bytes : ByteArray) (maxL : Nat) (ret : Option FieldType) (rm : Room) (as' : Array Value) (h : Heap) (Qr : Option Value → Heap → List Loc → Prop) : Prop :=
  ∀ ws : List Jvm.Cond, MetFree l y (head1 (Jvm.Cond.code y bytes maxL ret :: ws) rm) (fun a U => a = as' ∧ Z.Warmed39 U.vm ∧ U.heap = h) (fun _ _ _ _ _ => True) (fun _ U o U' => ∃ v L, o = .returned v ∧ Qr v U'.heap L ∧ FrameEnd U o U' L rm.cells rm.slots)
theorem own_st {Q : Outcome → State → Prop} {T' : State} {g g' : JFrame} (hs : ∀ t, Steps p.tables e below (T'.setTop g') t → Steps p.tables e below (T.setTop g) t) (k : own_E p e below Q T' g') : own_E p e below Q T g := by
  obtain ⟨s₂, o, h1, h2, h3, h4⟩ := k
  exact ⟨s₂, o, hs _ h1, h2, h3, h4⟩
theorem own_sy {Q : Outcome → State → Prop} {T' : State} {g g' : JFrame} (hs : Steps p.tables e below (T.setTop g) (T'.setTop g')) (k : own_E p e below Q T' g') : own_E p e below Q T g := by
  obtain ⟨s₂, o, h1, h2, h3, h4⟩ := k
  exact ⟨s₂, o, hs.trans h1, h2, h3, h4⟩
theorem own_body {y : MethodName} {bytes : ByteArray} {maxL : Nat} {ret : Option FieldType} {rm : Room} {as' : Array Value} {Qr : Option Value → Heap → List Loc → Prop} (hp : plainName y.cls = true)
    (body : ∀ (p : Program) (e : Env) (s : State) (m : MethodId) (below : List Frame) (meth : Method) (c : Code) (T : State), p.tables.exec = Jvm.exec → c.code = bytes → c.maxLocals = maxL → s.vm.findClass y.cls = some m.cls → Z.Warmed39 s.vm → meth.sig.returnType = ret → meth.locks = false → meth.name = y.name →
      Stand p l e rm s m as' below meth c T [] 0 0 → T.heap = h → own_E p e below (own_Q s Qr rm.cells rm.slots) T (entryFrame m as' maxL)) : own_M l Z y bytes maxL ret rm as' h Qr := by
  intro ws
  refine MetFree.of_bodySF (plainFor_of_name hp) hisR ?_
  intro p e s m args below meth c s₁ Bd hml0 hP hK
  obtain ⟨rfl, hZ, hh⟩ := hP
  exact body p e s m below meth c s₁ Bd.exec Bd.bytes hml0 (findClass_of_methodNamed Bd.named) hZ Bd.returns Bd.notSynchronized (name_of_methodNamed Bd.named Bd.method).1 (Stand.of_body Bd) (by rw [← hh, Bd.state]; rfl)
theorem own_retN {Qr : Option Value → Heap → List Loc → Prop} {kk jj pc : Nat} {Ls : Array Slot} {z : Int32} {t : FieldType} {rest : List Value} (X : Stand p l e R s m args below meth c T locs k j) (hx : p.tables.exec = Jvm.exec) (hlk : meth.locks = false) (hret : meth.sig.returnType = some t) (ht : t = .boolean ∨ t = .byte ∨ t = .char ∨ t = .short)
    (hd : decode c.code pc = .ok (.ireturn, 1)) (hk : k ≤ kk) (hj : j ≤ jj) (hq : Qr (some (.int (nar t z))) T.heap locs) : own_E p e below (own_Q s Qr kk jj) T (mkF m pc Ls (.int z :: rest)) := by
  obtain ⟨fs, hr, hrun, hended, hW, hsame⟩ := X.leave (v := some (.int (nar t z))) (fun q => by rw [hret] at q; cases q) hlk
  exact ⟨_, _, retN X hx hret ht hd hr, hrun, hended, _, _, rfl, hq, ⟨_, rfl⟩, hW, hsame.mono hk hj⟩
theorem own_retI {Qr : Option Value → Heap → List Loc → Prop} {kk jj pc : Nat} {Ls : Array Slot} {z : Int32} {rest : List Value} (X : Stand p l e R s m args below meth c T locs k j) (hx : p.tables.exec = Jvm.exec) (hlk : meth.locks = false) (hret : meth.sig.returnType = some .int)
    (hd : decode c.code pc = .ok (.ireturn, 1)) (hk : k ≤ kk) (hj : j ≤ jj) (hq : Qr (some (.int z)) T.heap locs) : own_E p e below (own_Q s Qr kk jj) T (mkF m pc Ls (.int z :: rest)) := by
  obtain ⟨fs, hr, hrun, hended, hW, hsame⟩ := X.leave (v := some (.int z)) (fun q => by rw [hret] at q; cases q) hlk
  exact ⟨_, _, retI X hx hret hd hr, hrun, hended, _, _, rfl, hq, ⟨_, rfl⟩, hW, hsame.mono hk hj⟩
theorem own_retJ {Qr : Option Value → Heap → List Loc → Prop} {kk jj pc : Nat} {Ls : Array Slot} {z : Int64} (X : Stand p l e R s m args below meth c T locs k j) (hx : p.tables.exec = Jvm.exec) (hlk : meth.locks = false) (hret : meth.sig.returnType = some .long)
    (hd : decode c.code pc = .ok (.lreturn, 1)) (hk : k ≤ kk) (hj : j ≤ jj) (hq : Qr (some (.long z)) T.heap locs) : own_E p e below (own_Q s Qr kk jj) T (mkF m pc Ls [.long z]) := by
  obtain ⟨fs, hr, hrun, hended, hW, hsame⟩ := X.leave (v := some (.long z)) (fun q => by rw [hret] at q; cases q) hlk
  exact ⟨_, _, X.lreturnOut hx hret hd hr, hrun, hended, _, _, rfl, hq, ⟨_, rfl⟩, hW, hsame.mono hk hj⟩
theorem own_retV {Qr : Option Value → Heap → List Loc → Prop} {kk jj pc : Nat} {Ls : Array Slot} (X : Stand p l e R s m args below meth c T locs k j) (hx : p.tables.exec = Jvm.exec) (hlk : meth.locks = false) (hret : meth.sig.returnType = none)
    (hd : decode c.code pc = .ok (.return_, 1)) (hk : k ≤ kk) (hj : j ≤ jj) (hq : Qr none T.heap locs) : own_E p e below (own_Q s Qr kk jj) T (mkF m pc Ls []) := by
  obtain ⟨fs, hr, hrun, hended, hW, hsame⟩ := X.leave (v := none) (fun _ => rfl) hlk
  exact ⟨_, _, X.returnOut hx hret hd hr, hrun, hended, _, _, rfl, hq, ⟨_, rfl⟩, hW, hsame.mono hk hj⟩
theorem own_retA {Qr : Option Value → Heap → List Loc → Prop} {kk jj pc : Nat} {Ls : Array Slot} {z : Value} {t : FieldType} {rest : List Value} (X : Stand p l e R s m args below meth c T locs k j) (hx : p.tables.exec = Jvm.exec) (hlk : meth.locks = false) (hret : meth.sig.returnType = some t) (ht : t.isReference = true) (hz : z.isRef = true) (hn : narrow t z = z)
    (hd : decode c.code pc = .ok (.areturn, 1)) (hk : k ≤ kk) (hj : j ≤ jj) (hq : Qr (some z) T.heap locs) : own_E p e below (own_Q s Qr kk jj) T (mkF m pc Ls (z :: rest)) := by
  obtain ⟨fs, hr, hrun, hended, hW, hsame⟩ := X.leave (v := some z) (fun q => by rw [hret] at q; cases q) hlk
  exact ⟨_, _, retOut X hx hret hn (Or.inr (Or.inr (Or.inr (Or.inr ⟨rfl, ht, hz⟩)))) hd hr, hrun, hended, _, _, rfl, hq, ⟨_, rfl⟩, hW, hsame.mono hk hj⟩
theorem own_callS {own : String} {index : Nat} {y : MethodName} {bytes : ByteArray} {maxL W : Nat} {ret : Option FieldType} {rm : Room} {Qr : Option Value → Heap → List Loc → Prop} {Q : Outcome → State → Prop} {g : JFrame} {argsL rest : List Value}
    (X : Stand p l e R s m args below meth c T locs k j) (hx : p.tables.exec = Jvm.exec) (hZ : Z.Warmed39 s.vm) (hown : s.vm.findClass own = some m.cls) (wl : (Cond.methodLink own index y).before a0 Z = true) (wst : (Cond.static y).before a0 Z = true) (wi : (Cond.initialized y.cls).before a0 Z = true) (wc : (Cond.code y bytes maxL ret).before a0 Z = true)
    (hy : y.cls ≠ "java/lang/invoke/MethodHandle" ∧ y.cls ≠ "java/lang/invoke/VarHandle") (hM : own_M l Z y bytes maxL ret rm argsL.toArray T.heap Qr) (hf : rm.frames + 1 ≤ R.frames) (hl : W + (maxL + 11) + rm.locals ≤ R.locals) (hck : k + rm.cells ≤ R.cells) (hcj : j + rm.slots ≤ R.slots)
    (hg : g.method = m) (hsize : g.locals.size = c.maxLocals) (hlen : ∀ sig, parseMethodDescriptor y.desc = some sig → argsL.length = sig.parameters.length) (hstack : g.stack = argsL.reverse ++ rest) (hW : 2 * g.monitorRoom + (rest.map fun v => v.category).sum ≤ W) (hdg : decode c.code g.pc = .ok (.invokestatic index, 3))
    (K : ∀ (T' : State) (L : List Loc) (v : Option Value), Stand p l e R s m args below meth c T' (locs ++ L) (k + rm.cells) (j + rm.slots) → Qr v T'.heap L → own_E p e below Q T' { g with pc := g.pc + 3, stack := v.toList ++ rest }) : own_E p e below Q T g := by
  obtain ⟨v, vm1, ⟨T', L', k', j'⟩, -, X', ⟨Lc, hQ, l', y', z'⟩, st⟩ := Jvm.LawKit.callS X hx (y := y) hown (mvT hZ wl) (mvT hZ wst) (mvT hZ wi) (mvT hZ wc) hy (backOf (W := W) (hM []) hZ wc wi hf hl) hg hsize hlen hstack hW hdg (fun _ _ => ⟨rfl, rfl, hck, hcj⟩)
  dsimp only [Pt.U, Pt.locs, Pt.cells, Pt.slots] at X' l' y' z' st hQ
  subst l' y' z'
  exact own_st st (K _ _ _ X' hQ)
theorem own_tr {P : Heap → Prop} {h h' : Heap} (q : h' = h) (i : P h) : P h' := q ▸ i
theorem own_pop2L {tb : Tables} [Ours tb] {target : State} {g : JFrame} (h : At T m c below) (hx : tb.exec = Jvm.exec) (hg : g.method = m) {x : Int64} {rest : List Value} (hd : decode c.code g.pc = .ok (.pop2, 1)) (hs : g.stack = .long x :: rest)
    (hr : Steps tb e below (T.setTop { g with pc := g.pc + 1, stack := rest }) target) : Steps tb e below (T.setTop g) target := by
  subst hg
  jvm_step h [h.top, hx, hd, hs]
  exact hr
theorem own_callC {own : String} {index : Nat} {y : MethodName} {bytes : ByteArray} {maxL W : Nat} {rm : Room} {Qr : Option Value → Heap → List Loc → Prop} {Q : Outcome → State → Prop} {g : JFrame} {a : Addr} {argsL rest : List Value}
    (X : Stand p l e R s m args below meth c T locs k j) (hx : p.tables.exec = Jvm.exec) (hZ : Z.Warmed39 s.vm) (hy1 : y.name = "<init>") (hown : s.vm.findClass own = some m.cls) (wl : (Cond.methodLink own index y).before a0 Z = true) (wm : (Cond.instanceMethod y).before a0 Z = true) (wi : (Cond.initialized y.cls).before a0 Z = true) (wc : (Cond.code y bytes maxL none).before a0 Z = true)
    (hy : y.cls ≠ "java/lang/invoke/MethodHandle" ∧ y.cls ≠ "java/lang/invoke/VarHandle") (hM : own_M l Z y bytes maxL none rm (.ref a :: argsL).toArray T.heap Qr) (hf : rm.frames + 1 ≤ R.frames) (hl : W + (maxL + 11) + rm.locals ≤ R.locals) (hck : k + rm.cells ≤ R.cells) (hcj : j + rm.slots ≤ R.slots)
    (hg : g.method = m) (hsize : g.locals.size = c.maxLocals) (hlen : ∀ sig, parseMethodDescriptor y.desc = some sig → argsL.length = sig.parameters.length) (hstack : g.stack = argsL.reverse ++ .ref a :: rest) (hW : 2 * g.monitorRoom + (rest.map fun v => v.category).sum ≤ W) (hdg : decode c.code g.pc = .ok (.invokespecial index, 3))
    (K : ∀ (T' : State) (L : List Loc) (v : Option Value), Stand p l e R s m args below meth c T' (locs ++ L) (k + rm.cells) (j + rm.slots) → Qr v T'.heap L → own_E p e below Q T' { g with pc := g.pc + 3, stack := v.toList ++ rest }) : own_E p e below Q T g := by
  obtain ⟨v, vm1, ⟨T', L', k', j'⟩, -, X', ⟨Lc, hQ, l', y', z'⟩, st⟩ := X.specialBack hx (y := y) hy1 hown (mvT hZ wl) (mvT hZ wm) (mvT hZ wc) hy (backOf (W := W) (hM []) hZ wc wi hf hl) hg hsize (Steps.refl _) (a := a) hlen hstack hW hdg (fun _ _ => ⟨rfl, rfl, hck, hcj⟩)
  dsimp only [Pt.U, Pt.locs, Pt.cells, Pt.slots] at X' l' y' z' st hQ
  subst l' y' z'
  exact own_sy st (K _ _ _ X' hQ)
theorem own_callV {own : String} {index : Nat} {y : MethodName} {bytes : ByteArray} {maxL W : Nat} {ret : Option FieldType} {rm : Room} {Qr : Option Value → Heap → List Loc → Prop} {Q : Outcome → State → Prop} {g : JFrame} {a : Addr} {argsL rest : List Value}
    (X : Stand p l e R s m args below meth c T locs k j) (hx : p.tables.exec = Jvm.exec) (hZ : Z.Warmed39 s.vm) (hown : s.vm.findClass own = some m.cls) (wl : (Cond.methodLink own index y).before a0 Z = true) (wd : (Cond.declares y).before a0 Z = true) (wsel : (Cond.selects y.cls y y).before a0 Z = true) (wm : (Cond.instanceMethod y).before a0 Z = true) (wi : (Cond.initialized y.cls).before a0 Z = true) (wc : (Cond.code y bytes maxL ret).before a0 Z = true)
    (hy : y.cls ≠ "java/lang/invoke/MethodHandle" ∧ y.cls ≠ "java/lang/invoke/VarHandle") (E : Exa Z T.heap a y.cls) (hM : own_M l Z y bytes maxL ret rm (.ref a :: argsL).toArray T.heap Qr) (hf : rm.frames + 1 ≤ R.frames) (hl : W + (maxL + 11) + rm.locals ≤ R.locals) (hck : k + rm.cells ≤ R.cells) (hcj : j + rm.slots ≤ R.slots)
    (hg : g.method = m) (hsize : g.locals.size = c.maxLocals) (hlen : ∀ sig, parseMethodDescriptor y.desc = some sig → argsL.length = sig.parameters.length) (hstack : g.stack = argsL.reverse ++ .ref a :: rest) (hW : 2 * g.monitorRoom + (rest.map fun v => v.category).sum ≤ W) (hdg : decode c.code g.pc = .ok (.invokevirtual index, 3))
    (K : ∀ (T' : State) (L : List Loc) (v : Option Value), Stand p l e R s m args below meth c T' (locs ++ L) (k + rm.cells) (j + rm.slots) → Qr v T'.heap L → own_E p e below Q T' { g with pc := g.pc + 3, stack := v.toList ++ rest }) : own_E p e below Q T g := by
  obtain ⟨cB, kB, qa, qb, qc⟩ := isOf (T := T) hZ rfl E
  obtain ⟨v, vm1, ⟨T', L', k', j'⟩, -, X', ⟨Lc, hQ, l', y', z'⟩, st⟩ := X.virtualBack hx (y := y) (z := y) hown (mvT hZ wl) (mvT hZ wd) (notFace_of_selects (args := #[]) (mvT hZ wsel)) (mvT hZ wsel) (mvT hZ wm) hy (backOf (W := W) (hM []) hZ wc wi hf hl) qa qc hg hsize (Steps.refl _) hlen hstack hW hdg (fun _ _ => ⟨rfl, rfl, hck, hcj⟩)
  dsimp only [Pt.U, Pt.locs, Pt.cells, Pt.slots] at X' l' y' z' st hQ
  subst l' y' z'
  exact own_sy st (K _ _ _ X' hQ)
theorem own_sel {y z : MethodName} (h : (Cond.selects z.cls z z).before args s = true) (hc : y.cls = z.cls) (hpriv : s.PrivateAt y) (hinst : (Cond.instanceMethod y).before args s = true) (hy : y.cls ≠ "java/lang/invoke/MethodHandle" ∧ y.cls ≠ "java/lang/invoke/VarHandle") : (Cond.selects y.cls y y).before args s = true := by
  obtain ⟨c2, r2, m2, -, -, q3, -, kP, hkP, hkPi⟩ := Cond.selects_spec h
  exact Stand.selects_self_of_private (by rw [hc]; exact findClass_of_methodNamed q3) hkP hkPi hpriv hinst hy
theorem own_callP {own : String} {index : Nat} {y z : MethodName} {bytes : ByteArray} {maxL W : Nat} {ret : Option FieldType} {rm : Room} {Qr : Option Value → Heap → List Loc → Prop} {Q : Outcome → State → Prop} {g : JFrame} {a : Addr} {argsL rest : List Value}
    (X : Stand p l e R s m args below meth c T locs k j) (hx : p.tables.exec = Jvm.exec) (hZ : Z.Warmed39 s.vm) (hown : s.vm.findClass own = some m.cls) (wl : (Cond.methodLink own index y).before a0 Z = true) (wsel : (Cond.selects z.cls z z).before a0 Z = true) (hc : y.cls = z.cls) (wp : (Cond.privateMethod y).before a0 Z = true) (wm : (Cond.instanceMethod y).before a0 Z = true) (wi : (Cond.initialized y.cls).before a0 Z = true) (wc : (Cond.code y bytes maxL ret).before a0 Z = true)
    (hy : y.cls ≠ "java/lang/invoke/MethodHandle" ∧ y.cls ≠ "java/lang/invoke/VarHandle") (E : Exa Z T.heap a y.cls) (hM : own_M l Z y bytes maxL ret rm (.ref a :: argsL).toArray T.heap Qr) (hf : rm.frames + 1 ≤ R.frames) (hl : W + (maxL + 11) + rm.locals ≤ R.locals) (hck : k + rm.cells ≤ R.cells) (hcj : j + rm.slots ≤ R.slots)
    (hg : g.method = m) (hsize : g.locals.size = c.maxLocals) (hlen : ∀ sig, parseMethodDescriptor y.desc = some sig → argsL.length = sig.parameters.length) (hstack : g.stack = argsL.reverse ++ .ref a :: rest) (hW : 2 * g.monitorRoom + (rest.map fun v => v.category).sum ≤ W) (hdg : decode c.code g.pc = .ok (.invokevirtual index, 3))
    (K : ∀ (T' : State) (L : List Loc) (v : Option Value), Stand p l e R s m args below meth c T' (locs ++ L) (k + rm.cells) (j + rm.slots) → Qr v T'.heap L → own_E p e below Q T' { g with pc := g.pc + 3, stack := v.toList ++ rest }) : own_E p e below Q T g := by
  obtain ⟨cq, q1, q2⟩ := E.cell
  have hpr := Cond.privateMethod_at (mvP hZ wp (args := args))
  obtain ⟨v, vm1, ⟨T', L', k', j'⟩, -, X', ⟨Lc, hQ, l', y', z'⟩, st⟩ := X.privateBack hx (y := y) hown (mvT hZ wl) (mvT hZ wm) (own_sel (z := z) (mvT hZ wsel) hc hpr (mvT hZ wm) hy) hpr (mvT hZ wc) hy (backOf (W := W) (hM []) hZ wc wi hf hl) hg hsize (Steps.refl _) (a := a) q1 q2 hlen hstack hW hdg (fun _ _ => ⟨rfl, rfl, hck, hcj⟩)
  dsimp only [Pt.U, Pt.locs, Pt.cells, Pt.slots] at X' l' y' z' st hQ
  subst l' y' z'
  exact own_sy st (K _ _ _ X' hQ)
end Own
def own_I (Z : State) (n0 : Nat) (h : Heap) (a : Addr) (g_key0 : Int64) (g_key1 : Int64) (g_v0 : Int64) (g_v1 : Int64) (g_v2 : Int64) (g_v3 : Int64) (g_word : Int64) (g_length : Int32) : Prop := n0 ≤ a ∧ Exa Z h a "com/example/tomekeeper/tomekeeper/tome/SipHash" ∧ Fld Z h a "com/example/tomekeeper/tomekeeper/tome/SipHash" "key0" "J" (.long g_key0) ∧ Fld Z h a "com/example/tomekeeper/tomekeeper/tome/SipHash" "key1" "J" (.long g_key1) ∧ Fld Z h a "com/example/tomekeeper/tomekeeper/tome/SipHash" "v0" "J" (.long g_v0) ∧ Fld Z h a "com/example/tomekeeper/tomekeeper/tome/SipHash" "v1" "J" (.long g_v1) ∧ Fld Z h a "com/example/tomekeeper/tomekeeper/tome/SipHash" "v2" "J" (.long g_v2) ∧ Fld Z h a "com/example/tomekeeper/tomekeeper/tome/SipHash" "v3" "J" (.long g_v3) ∧ Fld Z h a "com/example/tomekeeper/tomekeeper/tome/SipHash" "word" "J" (.long g_word) ∧ Fld Z h a "com/example/tomekeeper/tomekeeper/tome/SipHash" "length" "I" (.int g_length)
section OwnI
variable {Z : State} {n0 : Nat} {h h' : Heap} {a : Addr} {a0 : Array Value} {g_key0 : Int64} {g_key1 : Int64} {g_v0 : Int64} {g_v1 : Int64} {g_v2 : Int64} {g_v3 : Int64} {g_word : Int64} {g_length : Int32}
theorem own_Ina (I : own_I Z n0 h a g_key0 g_key1 g_v0 g_v1 g_v2 g_v3 g_word g_length) : n0 ≤ a := I.1
theorem own_Iex (I : own_I Z n0 h a g_key0 g_key1 g_v0 g_v1 g_v2 g_v3 g_word g_length) : Exa Z h a "com/example/tomekeeper/tomekeeper/tome/SipHash" := I.2.1
theorem own_Isz (I : own_I Z n0 h a g_key0 g_key1 g_v0 g_v1 g_v2 g_v3 g_word g_length) : n0 ≤ h.size := Nat.le_of_lt (Nat.lt_of_le_of_lt I.1 I.2.1.lt)
theorem own_Ig_key0 (I : own_I Z n0 h a g_key0 g_key1 g_v0 g_v1 g_v2 g_v3 g_word g_length) : Fld Z h a "com/example/tomekeeper/tomekeeper/tome/SipHash" "key0" "J" (.long g_key0) := by obtain ⟨q, E, f0, f1, f2, f3, f4, f5, f6, f7⟩ := I; exact f0
theorem own_Ig_key1 (I : own_I Z n0 h a g_key0 g_key1 g_v0 g_v1 g_v2 g_v3 g_word g_length) : Fld Z h a "com/example/tomekeeper/tomekeeper/tome/SipHash" "key1" "J" (.long g_key1) := by obtain ⟨q, E, f0, f1, f2, f3, f4, f5, f6, f7⟩ := I; exact f1
theorem own_Ig_v0 (I : own_I Z n0 h a g_key0 g_key1 g_v0 g_v1 g_v2 g_v3 g_word g_length) : Fld Z h a "com/example/tomekeeper/tomekeeper/tome/SipHash" "v0" "J" (.long g_v0) := by obtain ⟨q, E, f0, f1, f2, f3, f4, f5, f6, f7⟩ := I; exact f2
theorem own_Ig_v1 (I : own_I Z n0 h a g_key0 g_key1 g_v0 g_v1 g_v2 g_v3 g_word g_length) : Fld Z h a "com/example/tomekeeper/tomekeeper/tome/SipHash" "v1" "J" (.long g_v1) := by obtain ⟨q, E, f0, f1, f2, f3, f4, f5, f6, f7⟩ := I; exact f3
theorem own_Ig_v2 (I : own_I Z n0 h a g_key0 g_key1 g_v0 g_v1 g_v2 g_v3 g_word g_length) : Fld Z h a "com/example/tomekeeper/tomekeeper/tome/SipHash" "v2" "J" (.long g_v2) := by obtain ⟨q, E, f0, f1, f2, f3, f4, f5, f6, f7⟩ := I; exact f4
theorem own_Ig_v3 (I : own_I Z n0 h a g_key0 g_key1 g_v0 g_v1 g_v2 g_v3 g_word g_length) : Fld Z h a "com/example/tomekeeper/tomekeeper/tome/SipHash" "v3" "J" (.long g_v3) := by obtain ⟨q, E, f0, f1, f2, f3, f4, f5, f6, f7⟩ := I; exact f5
theorem own_Ig_word (I : own_I Z n0 h a g_key0 g_key1 g_v0 g_v1 g_v2 g_v3 g_word g_length) : Fld Z h a "com/example/tomekeeper/tomekeeper/tome/SipHash" "word" "J" (.long g_word) := by obtain ⟨q, E, f0, f1, f2, f3, f4, f5, f6, f7⟩ := I; exact f6
theorem own_Ig_length (I : own_I Z n0 h a g_key0 g_key1 g_v0 g_v1 g_v2 g_v3 g_word g_length) : Fld Z h a "com/example/tomekeeper/tomekeeper/tome/SipHash" "length" "I" (.int g_length) := by obtain ⟨q, E, f0, f1, f2, f3, f4, f5, f6, f7⟩ := I; exact f7
theorem own_Is_key0 {x : Int64} (hw : ∀ d ∈ tables_1, d.before a0 Z = true) (W : Wr h h' a (Jvm.RoadKit.slotOf Z "com/example/tomekeeper/tomekeeper/tome/SipHash" "key0" "J") (.long x)) (I : own_I Z n0 h a g_key0 g_key1 g_v0 g_v1 g_v2 g_v3 g_word g_length) : own_I Z n0 h' a x g_key1 g_v0 g_v1 g_v2 g_v3 g_word g_length := by
  obtain ⟨q, E, f0, f1, f2, f3, f4, f5, f6, f7⟩ := I
  exact ⟨q, E.wr W, (f0.same W), (f1.other W (Or.inr (slot_ne (a0 := a0) (C := "com/example/tomekeeper/tomekeeper/tome/SipHash") (Or.inr (hw _ (List.mem_of_getElem? (i := 12) rfl))) (Or.inr (hw _ (List.mem_of_getElem? (i := 10) rfl))) (by decide) (t := .long) (t' := .long) (by decide) (by decide)))), (f2.other W (Or.inr (slot_ne (a0 := a0) (C := "com/example/tomekeeper/tomekeeper/tome/SipHash") (Or.inl (hw _ (List.mem_of_getElem? (i := 20) rfl))) (Or.inr (hw _ (List.mem_of_getElem? (i := 10) rfl))) (by decide) (t := .long) (t' := .long) (by decide) (by decide)))), (f3.other W (Or.inr (slot_ne (a0 := a0) (C := "com/example/tomekeeper/tomekeeper/tome/SipHash") (Or.inl (hw _ (List.mem_of_getElem? (i := 23) rfl))) (Or.inr (hw _ (List.mem_of_getElem? (i := 10) rfl))) (by decide) (t := .long) (t' := .long) (by decide) (by decide)))), (f4.other W (Or.inr (slot_ne (a0 := a0) (C := "com/example/tomekeeper/tomekeeper/tome/SipHash") (Or.inl (hw _ (List.mem_of_getElem? (i := 26) rfl))) (Or.inr (hw _ (List.mem_of_getElem? (i := 10) rfl))) (by decide) (t := .long) (t' := .long) (by decide) (by decide)))), (f5.other W (Or.inr (slot_ne (a0 := a0) (C := "com/example/tomekeeper/tomekeeper/tome/SipHash") (Or.inl (hw _ (List.mem_of_getElem? (i := 29) rfl))) (Or.inr (hw _ (List.mem_of_getElem? (i := 10) rfl))) (by decide) (t := .long) (t' := .long) (by decide) (by decide)))), (f6.other W (Or.inr (slot_ne (a0 := a0) (C := "com/example/tomekeeper/tomekeeper/tome/SipHash") (Or.inl (hw _ (List.mem_of_getElem? (i := 31) rfl))) (Or.inr (hw _ (List.mem_of_getElem? (i := 10) rfl))) (by decide) (t := .long) (t' := .long) (by decide) (by decide)))), (f7.other W (Or.inr (slot_ne (a0 := a0) (C := "com/example/tomekeeper/tomekeeper/tome/SipHash") (Or.inl (hw _ (List.mem_of_getElem? (i := 33) rfl))) (Or.inr (hw _ (List.mem_of_getElem? (i := 10) rfl))) (by decide) (t := .int) (t' := .long) (by decide) (by decide))))⟩
theorem own_Is_key1 {x : Int64} (hw : ∀ d ∈ tables_1, d.before a0 Z = true) (W : Wr h h' a (Jvm.RoadKit.slotOf Z "com/example/tomekeeper/tomekeeper/tome/SipHash" "key1" "J") (.long x)) (I : own_I Z n0 h a g_key0 g_key1 g_v0 g_v1 g_v2 g_v3 g_word g_length) : own_I Z n0 h' a g_key0 x g_v0 g_v1 g_v2 g_v3 g_word g_length := by
  obtain ⟨q, E, f0, f1, f2, f3, f4, f5, f6, f7⟩ := I
  exact ⟨q, E.wr W, (f0.other W (Or.inr (slot_ne (a0 := a0) (C := "com/example/tomekeeper/tomekeeper/tome/SipHash") (Or.inr (hw _ (List.mem_of_getElem? (i := 10) rfl))) (Or.inr (hw _ (List.mem_of_getElem? (i := 12) rfl))) (by decide) (t := .long) (t' := .long) (by decide) (by decide)))), (f1.same W), (f2.other W (Or.inr (slot_ne (a0 := a0) (C := "com/example/tomekeeper/tomekeeper/tome/SipHash") (Or.inl (hw _ (List.mem_of_getElem? (i := 20) rfl))) (Or.inr (hw _ (List.mem_of_getElem? (i := 12) rfl))) (by decide) (t := .long) (t' := .long) (by decide) (by decide)))), (f3.other W (Or.inr (slot_ne (a0 := a0) (C := "com/example/tomekeeper/tomekeeper/tome/SipHash") (Or.inl (hw _ (List.mem_of_getElem? (i := 23) rfl))) (Or.inr (hw _ (List.mem_of_getElem? (i := 12) rfl))) (by decide) (t := .long) (t' := .long) (by decide) (by decide)))), (f4.other W (Or.inr (slot_ne (a0 := a0) (C := "com/example/tomekeeper/tomekeeper/tome/SipHash") (Or.inl (hw _ (List.mem_of_getElem? (i := 26) rfl))) (Or.inr (hw _ (List.mem_of_getElem? (i := 12) rfl))) (by decide) (t := .long) (t' := .long) (by decide) (by decide)))), (f5.other W (Or.inr (slot_ne (a0 := a0) (C := "com/example/tomekeeper/tomekeeper/tome/SipHash") (Or.inl (hw _ (List.mem_of_getElem? (i := 29) rfl))) (Or.inr (hw _ (List.mem_of_getElem? (i := 12) rfl))) (by decide) (t := .long) (t' := .long) (by decide) (by decide)))), (f6.other W (Or.inr (slot_ne (a0 := a0) (C := "com/example/tomekeeper/tomekeeper/tome/SipHash") (Or.inl (hw _ (List.mem_of_getElem? (i := 31) rfl))) (Or.inr (hw _ (List.mem_of_getElem? (i := 12) rfl))) (by decide) (t := .long) (t' := .long) (by decide) (by decide)))), (f7.other W (Or.inr (slot_ne (a0 := a0) (C := "com/example/tomekeeper/tomekeeper/tome/SipHash") (Or.inl (hw _ (List.mem_of_getElem? (i := 33) rfl))) (Or.inr (hw _ (List.mem_of_getElem? (i := 12) rfl))) (by decide) (t := .int) (t' := .long) (by decide) (by decide))))⟩
theorem own_Is_v0 {x : Int64} (hw : ∀ d ∈ tables_1, d.before a0 Z = true) (W : Wr h h' a (Jvm.RoadKit.slotOf Z "com/example/tomekeeper/tomekeeper/tome/SipHash" "v0" "J") (.long x)) (I : own_I Z n0 h a g_key0 g_key1 g_v0 g_v1 g_v2 g_v3 g_word g_length) : own_I Z n0 h' a g_key0 g_key1 x g_v1 g_v2 g_v3 g_word g_length := by
  obtain ⟨q, E, f0, f1, f2, f3, f4, f5, f6, f7⟩ := I
  exact ⟨q, E.wr W, (f0.other W (Or.inr (slot_ne (a0 := a0) (C := "com/example/tomekeeper/tomekeeper/tome/SipHash") (Or.inr (hw _ (List.mem_of_getElem? (i := 10) rfl))) (Or.inl (hw _ (List.mem_of_getElem? (i := 20) rfl))) (by decide) (t := .long) (t' := .long) (by decide) (by decide)))), (f1.other W (Or.inr (slot_ne (a0 := a0) (C := "com/example/tomekeeper/tomekeeper/tome/SipHash") (Or.inr (hw _ (List.mem_of_getElem? (i := 12) rfl))) (Or.inl (hw _ (List.mem_of_getElem? (i := 20) rfl))) (by decide) (t := .long) (t' := .long) (by decide) (by decide)))), (f2.same W), (f3.other W (Or.inr (slot_ne (a0 := a0) (C := "com/example/tomekeeper/tomekeeper/tome/SipHash") (Or.inl (hw _ (List.mem_of_getElem? (i := 23) rfl))) (Or.inl (hw _ (List.mem_of_getElem? (i := 20) rfl))) (by decide) (t := .long) (t' := .long) (by decide) (by decide)))), (f4.other W (Or.inr (slot_ne (a0 := a0) (C := "com/example/tomekeeper/tomekeeper/tome/SipHash") (Or.inl (hw _ (List.mem_of_getElem? (i := 26) rfl))) (Or.inl (hw _ (List.mem_of_getElem? (i := 20) rfl))) (by decide) (t := .long) (t' := .long) (by decide) (by decide)))), (f5.other W (Or.inr (slot_ne (a0 := a0) (C := "com/example/tomekeeper/tomekeeper/tome/SipHash") (Or.inl (hw _ (List.mem_of_getElem? (i := 29) rfl))) (Or.inl (hw _ (List.mem_of_getElem? (i := 20) rfl))) (by decide) (t := .long) (t' := .long) (by decide) (by decide)))), (f6.other W (Or.inr (slot_ne (a0 := a0) (C := "com/example/tomekeeper/tomekeeper/tome/SipHash") (Or.inl (hw _ (List.mem_of_getElem? (i := 31) rfl))) (Or.inl (hw _ (List.mem_of_getElem? (i := 20) rfl))) (by decide) (t := .long) (t' := .long) (by decide) (by decide)))), (f7.other W (Or.inr (slot_ne (a0 := a0) (C := "com/example/tomekeeper/tomekeeper/tome/SipHash") (Or.inl (hw _ (List.mem_of_getElem? (i := 33) rfl))) (Or.inl (hw _ (List.mem_of_getElem? (i := 20) rfl))) (by decide) (t := .int) (t' := .long) (by decide) (by decide))))⟩
theorem own_Is_v1 {x : Int64} (hw : ∀ d ∈ tables_1, d.before a0 Z = true) (W : Wr h h' a (Jvm.RoadKit.slotOf Z "com/example/tomekeeper/tomekeeper/tome/SipHash" "v1" "J") (.long x)) (I : own_I Z n0 h a g_key0 g_key1 g_v0 g_v1 g_v2 g_v3 g_word g_length) : own_I Z n0 h' a g_key0 g_key1 g_v0 x g_v2 g_v3 g_word g_length := by
  obtain ⟨q, E, f0, f1, f2, f3, f4, f5, f6, f7⟩ := I
  exact ⟨q, E.wr W, (f0.other W (Or.inr (slot_ne (a0 := a0) (C := "com/example/tomekeeper/tomekeeper/tome/SipHash") (Or.inr (hw _ (List.mem_of_getElem? (i := 10) rfl))) (Or.inl (hw _ (List.mem_of_getElem? (i := 23) rfl))) (by decide) (t := .long) (t' := .long) (by decide) (by decide)))), (f1.other W (Or.inr (slot_ne (a0 := a0) (C := "com/example/tomekeeper/tomekeeper/tome/SipHash") (Or.inr (hw _ (List.mem_of_getElem? (i := 12) rfl))) (Or.inl (hw _ (List.mem_of_getElem? (i := 23) rfl))) (by decide) (t := .long) (t' := .long) (by decide) (by decide)))), (f2.other W (Or.inr (slot_ne (a0 := a0) (C := "com/example/tomekeeper/tomekeeper/tome/SipHash") (Or.inl (hw _ (List.mem_of_getElem? (i := 20) rfl))) (Or.inl (hw _ (List.mem_of_getElem? (i := 23) rfl))) (by decide) (t := .long) (t' := .long) (by decide) (by decide)))), (f3.same W), (f4.other W (Or.inr (slot_ne (a0 := a0) (C := "com/example/tomekeeper/tomekeeper/tome/SipHash") (Or.inl (hw _ (List.mem_of_getElem? (i := 26) rfl))) (Or.inl (hw _ (List.mem_of_getElem? (i := 23) rfl))) (by decide) (t := .long) (t' := .long) (by decide) (by decide)))), (f5.other W (Or.inr (slot_ne (a0 := a0) (C := "com/example/tomekeeper/tomekeeper/tome/SipHash") (Or.inl (hw _ (List.mem_of_getElem? (i := 29) rfl))) (Or.inl (hw _ (List.mem_of_getElem? (i := 23) rfl))) (by decide) (t := .long) (t' := .long) (by decide) (by decide)))), (f6.other W (Or.inr (slot_ne (a0 := a0) (C := "com/example/tomekeeper/tomekeeper/tome/SipHash") (Or.inl (hw _ (List.mem_of_getElem? (i := 31) rfl))) (Or.inl (hw _ (List.mem_of_getElem? (i := 23) rfl))) (by decide) (t := .long) (t' := .long) (by decide) (by decide)))), (f7.other W (Or.inr (slot_ne (a0 := a0) (C := "com/example/tomekeeper/tomekeeper/tome/SipHash") (Or.inl (hw _ (List.mem_of_getElem? (i := 33) rfl))) (Or.inl (hw _ (List.mem_of_getElem? (i := 23) rfl))) (by decide) (t := .int) (t' := .long) (by decide) (by decide))))⟩
theorem own_Is_v2 {x : Int64} (hw : ∀ d ∈ tables_1, d.before a0 Z = true) (W : Wr h h' a (Jvm.RoadKit.slotOf Z "com/example/tomekeeper/tomekeeper/tome/SipHash" "v2" "J") (.long x)) (I : own_I Z n0 h a g_key0 g_key1 g_v0 g_v1 g_v2 g_v3 g_word g_length) : own_I Z n0 h' a g_key0 g_key1 g_v0 g_v1 x g_v3 g_word g_length := by
  obtain ⟨q, E, f0, f1, f2, f3, f4, f5, f6, f7⟩ := I
  exact ⟨q, E.wr W, (f0.other W (Or.inr (slot_ne (a0 := a0) (C := "com/example/tomekeeper/tomekeeper/tome/SipHash") (Or.inr (hw _ (List.mem_of_getElem? (i := 10) rfl))) (Or.inl (hw _ (List.mem_of_getElem? (i := 26) rfl))) (by decide) (t := .long) (t' := .long) (by decide) (by decide)))), (f1.other W (Or.inr (slot_ne (a0 := a0) (C := "com/example/tomekeeper/tomekeeper/tome/SipHash") (Or.inr (hw _ (List.mem_of_getElem? (i := 12) rfl))) (Or.inl (hw _ (List.mem_of_getElem? (i := 26) rfl))) (by decide) (t := .long) (t' := .long) (by decide) (by decide)))), (f2.other W (Or.inr (slot_ne (a0 := a0) (C := "com/example/tomekeeper/tomekeeper/tome/SipHash") (Or.inl (hw _ (List.mem_of_getElem? (i := 20) rfl))) (Or.inl (hw _ (List.mem_of_getElem? (i := 26) rfl))) (by decide) (t := .long) (t' := .long) (by decide) (by decide)))), (f3.other W (Or.inr (slot_ne (a0 := a0) (C := "com/example/tomekeeper/tomekeeper/tome/SipHash") (Or.inl (hw _ (List.mem_of_getElem? (i := 23) rfl))) (Or.inl (hw _ (List.mem_of_getElem? (i := 26) rfl))) (by decide) (t := .long) (t' := .long) (by decide) (by decide)))), (f4.same W), (f5.other W (Or.inr (slot_ne (a0 := a0) (C := "com/example/tomekeeper/tomekeeper/tome/SipHash") (Or.inl (hw _ (List.mem_of_getElem? (i := 29) rfl))) (Or.inl (hw _ (List.mem_of_getElem? (i := 26) rfl))) (by decide) (t := .long) (t' := .long) (by decide) (by decide)))), (f6.other W (Or.inr (slot_ne (a0 := a0) (C := "com/example/tomekeeper/tomekeeper/tome/SipHash") (Or.inl (hw _ (List.mem_of_getElem? (i := 31) rfl))) (Or.inl (hw _ (List.mem_of_getElem? (i := 26) rfl))) (by decide) (t := .long) (t' := .long) (by decide) (by decide)))), (f7.other W (Or.inr (slot_ne (a0 := a0) (C := "com/example/tomekeeper/tomekeeper/tome/SipHash") (Or.inl (hw _ (List.mem_of_getElem? (i := 33) rfl))) (Or.inl (hw _ (List.mem_of_getElem? (i := 26) rfl))) (by decide) (t := .int) (t' := .long) (by decide) (by decide))))⟩
theorem own_Is_v3 {x : Int64} (hw : ∀ d ∈ tables_1, d.before a0 Z = true) (W : Wr h h' a (Jvm.RoadKit.slotOf Z "com/example/tomekeeper/tomekeeper/tome/SipHash" "v3" "J") (.long x)) (I : own_I Z n0 h a g_key0 g_key1 g_v0 g_v1 g_v2 g_v3 g_word g_length) : own_I Z n0 h' a g_key0 g_key1 g_v0 g_v1 g_v2 x g_word g_length := by
  obtain ⟨q, E, f0, f1, f2, f3, f4, f5, f6, f7⟩ := I
  exact ⟨q, E.wr W, (f0.other W (Or.inr (slot_ne (a0 := a0) (C := "com/example/tomekeeper/tomekeeper/tome/SipHash") (Or.inr (hw _ (List.mem_of_getElem? (i := 10) rfl))) (Or.inl (hw _ (List.mem_of_getElem? (i := 29) rfl))) (by decide) (t := .long) (t' := .long) (by decide) (by decide)))), (f1.other W (Or.inr (slot_ne (a0 := a0) (C := "com/example/tomekeeper/tomekeeper/tome/SipHash") (Or.inr (hw _ (List.mem_of_getElem? (i := 12) rfl))) (Or.inl (hw _ (List.mem_of_getElem? (i := 29) rfl))) (by decide) (t := .long) (t' := .long) (by decide) (by decide)))), (f2.other W (Or.inr (slot_ne (a0 := a0) (C := "com/example/tomekeeper/tomekeeper/tome/SipHash") (Or.inl (hw _ (List.mem_of_getElem? (i := 20) rfl))) (Or.inl (hw _ (List.mem_of_getElem? (i := 29) rfl))) (by decide) (t := .long) (t' := .long) (by decide) (by decide)))), (f3.other W (Or.inr (slot_ne (a0 := a0) (C := "com/example/tomekeeper/tomekeeper/tome/SipHash") (Or.inl (hw _ (List.mem_of_getElem? (i := 23) rfl))) (Or.inl (hw _ (List.mem_of_getElem? (i := 29) rfl))) (by decide) (t := .long) (t' := .long) (by decide) (by decide)))), (f4.other W (Or.inr (slot_ne (a0 := a0) (C := "com/example/tomekeeper/tomekeeper/tome/SipHash") (Or.inl (hw _ (List.mem_of_getElem? (i := 26) rfl))) (Or.inl (hw _ (List.mem_of_getElem? (i := 29) rfl))) (by decide) (t := .long) (t' := .long) (by decide) (by decide)))), (f5.same W), (f6.other W (Or.inr (slot_ne (a0 := a0) (C := "com/example/tomekeeper/tomekeeper/tome/SipHash") (Or.inl (hw _ (List.mem_of_getElem? (i := 31) rfl))) (Or.inl (hw _ (List.mem_of_getElem? (i := 29) rfl))) (by decide) (t := .long) (t' := .long) (by decide) (by decide)))), (f7.other W (Or.inr (slot_ne (a0 := a0) (C := "com/example/tomekeeper/tomekeeper/tome/SipHash") (Or.inl (hw _ (List.mem_of_getElem? (i := 33) rfl))) (Or.inl (hw _ (List.mem_of_getElem? (i := 29) rfl))) (by decide) (t := .int) (t' := .long) (by decide) (by decide))))⟩
theorem own_Is_word {x : Int64} (hw : ∀ d ∈ tables_1, d.before a0 Z = true) (W : Wr h h' a (Jvm.RoadKit.slotOf Z "com/example/tomekeeper/tomekeeper/tome/SipHash" "word" "J") (.long x)) (I : own_I Z n0 h a g_key0 g_key1 g_v0 g_v1 g_v2 g_v3 g_word g_length) : own_I Z n0 h' a g_key0 g_key1 g_v0 g_v1 g_v2 g_v3 x g_length := by
  obtain ⟨q, E, f0, f1, f2, f3, f4, f5, f6, f7⟩ := I
  exact ⟨q, E.wr W, (f0.other W (Or.inr (slot_ne (a0 := a0) (C := "com/example/tomekeeper/tomekeeper/tome/SipHash") (Or.inr (hw _ (List.mem_of_getElem? (i := 10) rfl))) (Or.inl (hw _ (List.mem_of_getElem? (i := 31) rfl))) (by decide) (t := .long) (t' := .long) (by decide) (by decide)))), (f1.other W (Or.inr (slot_ne (a0 := a0) (C := "com/example/tomekeeper/tomekeeper/tome/SipHash") (Or.inr (hw _ (List.mem_of_getElem? (i := 12) rfl))) (Or.inl (hw _ (List.mem_of_getElem? (i := 31) rfl))) (by decide) (t := .long) (t' := .long) (by decide) (by decide)))), (f2.other W (Or.inr (slot_ne (a0 := a0) (C := "com/example/tomekeeper/tomekeeper/tome/SipHash") (Or.inl (hw _ (List.mem_of_getElem? (i := 20) rfl))) (Or.inl (hw _ (List.mem_of_getElem? (i := 31) rfl))) (by decide) (t := .long) (t' := .long) (by decide) (by decide)))), (f3.other W (Or.inr (slot_ne (a0 := a0) (C := "com/example/tomekeeper/tomekeeper/tome/SipHash") (Or.inl (hw _ (List.mem_of_getElem? (i := 23) rfl))) (Or.inl (hw _ (List.mem_of_getElem? (i := 31) rfl))) (by decide) (t := .long) (t' := .long) (by decide) (by decide)))), (f4.other W (Or.inr (slot_ne (a0 := a0) (C := "com/example/tomekeeper/tomekeeper/tome/SipHash") (Or.inl (hw _ (List.mem_of_getElem? (i := 26) rfl))) (Or.inl (hw _ (List.mem_of_getElem? (i := 31) rfl))) (by decide) (t := .long) (t' := .long) (by decide) (by decide)))), (f5.other W (Or.inr (slot_ne (a0 := a0) (C := "com/example/tomekeeper/tomekeeper/tome/SipHash") (Or.inl (hw _ (List.mem_of_getElem? (i := 29) rfl))) (Or.inl (hw _ (List.mem_of_getElem? (i := 31) rfl))) (by decide) (t := .long) (t' := .long) (by decide) (by decide)))), (f6.same W), (f7.other W (Or.inr (slot_ne (a0 := a0) (C := "com/example/tomekeeper/tomekeeper/tome/SipHash") (Or.inl (hw _ (List.mem_of_getElem? (i := 33) rfl))) (Or.inl (hw _ (List.mem_of_getElem? (i := 31) rfl))) (by decide) (t := .int) (t' := .long) (by decide) (by decide))))⟩
theorem own_Is_length {x : Int32} (hw : ∀ d ∈ tables_1, d.before a0 Z = true) (W : Wr h h' a (Jvm.RoadKit.slotOf Z "com/example/tomekeeper/tomekeeper/tome/SipHash" "length" "I") (.int x)) (I : own_I Z n0 h a g_key0 g_key1 g_v0 g_v1 g_v2 g_v3 g_word g_length) : own_I Z n0 h' a g_key0 g_key1 g_v0 g_v1 g_v2 g_v3 g_word x := by
  obtain ⟨q, E, f0, f1, f2, f3, f4, f5, f6, f7⟩ := I
  exact ⟨q, E.wr W, (f0.other W (Or.inr (slot_ne (a0 := a0) (C := "com/example/tomekeeper/tomekeeper/tome/SipHash") (Or.inr (hw _ (List.mem_of_getElem? (i := 10) rfl))) (Or.inl (hw _ (List.mem_of_getElem? (i := 33) rfl))) (by decide) (t := .long) (t' := .int) (by decide) (by decide)))), (f1.other W (Or.inr (slot_ne (a0 := a0) (C := "com/example/tomekeeper/tomekeeper/tome/SipHash") (Or.inr (hw _ (List.mem_of_getElem? (i := 12) rfl))) (Or.inl (hw _ (List.mem_of_getElem? (i := 33) rfl))) (by decide) (t := .long) (t' := .int) (by decide) (by decide)))), (f2.other W (Or.inr (slot_ne (a0 := a0) (C := "com/example/tomekeeper/tomekeeper/tome/SipHash") (Or.inl (hw _ (List.mem_of_getElem? (i := 20) rfl))) (Or.inl (hw _ (List.mem_of_getElem? (i := 33) rfl))) (by decide) (t := .long) (t' := .int) (by decide) (by decide)))), (f3.other W (Or.inr (slot_ne (a0 := a0) (C := "com/example/tomekeeper/tomekeeper/tome/SipHash") (Or.inl (hw _ (List.mem_of_getElem? (i := 23) rfl))) (Or.inl (hw _ (List.mem_of_getElem? (i := 33) rfl))) (by decide) (t := .long) (t' := .int) (by decide) (by decide)))), (f4.other W (Or.inr (slot_ne (a0 := a0) (C := "com/example/tomekeeper/tomekeeper/tome/SipHash") (Or.inl (hw _ (List.mem_of_getElem? (i := 26) rfl))) (Or.inl (hw _ (List.mem_of_getElem? (i := 33) rfl))) (by decide) (t := .long) (t' := .int) (by decide) (by decide)))), (f5.other W (Or.inr (slot_ne (a0 := a0) (C := "com/example/tomekeeper/tomekeeper/tome/SipHash") (Or.inl (hw _ (List.mem_of_getElem? (i := 29) rfl))) (Or.inl (hw _ (List.mem_of_getElem? (i := 33) rfl))) (by decide) (t := .long) (t' := .int) (by decide) (by decide)))), (f6.other W (Or.inr (slot_ne (a0 := a0) (C := "com/example/tomekeeper/tomekeeper/tome/SipHash") (Or.inl (hw _ (List.mem_of_getElem? (i := 31) rfl))) (Or.inl (hw _ (List.mem_of_getElem? (i := 33) rfl))) (by decide) (t := .long) (t' := .int) (by decide) (by decide)))), (f7.same W)⟩
theorem own_Iext (E : Ext h h') (I : own_I Z n0 h a g_key0 g_key1 g_v0 g_v1 g_v2 g_v3 g_word g_length) : own_I Z n0 h' a g_key0 g_key1 g_v0 g_v1 g_v2 g_v3 g_word g_length := by
  obtain ⟨q, A, f0, f1, f2, f3, f4, f5, f6, f7⟩ := I
  exact ⟨q, A.ext E, f0.ext E, f1.ext E, f2.ext E, f3.ext E, f4.ext E, f5.ext E, f6.ext E, f7.ext E⟩
theorem own_Inew (hw : ∀ d ∈ tables_1, d.before a0 Z = true) (q : n0 ≤ a) (A : Exa Z h a "com/example/tomekeeper/tomekeeper/tome/SipHash") (D : ∀ {O nm d : String} {ty : FieldType}, Laid Z a0 "com/example/tomekeeper/tomekeeper/tome/SipHash" O nm d → parseFieldDescriptor d = some ty → Fld Z h a O nm d (defaultValue ty)) : own_I Z n0 h a 0 0 0 0 0 0 0 0 :=
  ⟨q, A, (D (Or.inr (hw _ (List.mem_of_getElem? (i := 10) rfl))) (ty := .long) (by decide)), (D (Or.inr (hw _ (List.mem_of_getElem? (i := 12) rfl))) (ty := .long) (by decide)), (D (Or.inl (hw _ (List.mem_of_getElem? (i := 20) rfl))) (ty := .long) (by decide)), (D (Or.inl (hw _ (List.mem_of_getElem? (i := 23) rfl))) (ty := .long) (by decide)), (D (Or.inl (hw _ (List.mem_of_getElem? (i := 26) rfl))) (ty := .long) (by decide)), (D (Or.inl (hw _ (List.mem_of_getElem? (i := 29) rfl))) (ty := .long) (by decide)), (D (Or.inl (hw _ (List.mem_of_getElem? (i := 31) rfl))) (ty := .long) (by decide)), (D (Or.inl (hw _ (List.mem_of_getElem? (i := 33) rfl))) (ty := .int) (by decide))⟩
end OwnI
theorem pn_3 : plainName "com/example/tomekeeper/tomekeeper/tome/SipHash" = true := by first | (simp [plainName, overriddenIn]; done) | decide +kernel
theorem pd_3 : parseMethodDescriptor "()V" = some ⟨[], none⟩ := by decide +kernel
theorem d3_0 : decode prog_118_method_2_code 0 = .ok (.aload_n 0, 1) := by decide +kernel
theorem d3_1 : decode prog_118_method_2_code 1 = .ok (.aload_n 0, 1) := by decide +kernel
theorem d3_2 : decode prog_118_method_2_code 2 = .ok (.getfield 7, 3) := by decide +kernel
theorem d3_5 : decode prog_118_method_2_code 5 = .ok (.ldc2_w 19, 3) := by decide +kernel
theorem d3_8 : decode prog_118_method_2_code 8 = .ok (.lxor, 1) := by decide +kernel
theorem d3_9 : decode prog_118_method_2_code 9 = .ok (.putfield 21, 3) := by decide +kernel
theorem d3_12 : decode prog_118_method_2_code 12 = .ok (.aload_n 0, 1) := by decide +kernel
theorem d3_13 : decode prog_118_method_2_code 13 = .ok (.aload_n 0, 1) := by decide +kernel
theorem d3_14 : decode prog_118_method_2_code 14 = .ok (.getfield 13, 3) := by decide +kernel
theorem d3_17 : decode prog_118_method_2_code 17 = .ok (.ldc2_w 24, 3) := by decide +kernel
theorem d3_20 : decode prog_118_method_2_code 20 = .ok (.lxor, 1) := by decide +kernel
theorem d3_21 : decode prog_118_method_2_code 21 = .ok (.putfield 26, 3) := by decide +kernel
theorem d3_24 : decode prog_118_method_2_code 24 = .ok (.aload_n 0, 1) := by decide +kernel
theorem d3_25 : decode prog_118_method_2_code 25 = .ok (.aload_n 0, 1) := by decide +kernel
theorem d3_26 : decode prog_118_method_2_code 26 = .ok (.getfield 7, 3) := by decide +kernel
theorem d3_29 : decode prog_118_method_2_code 29 = .ok (.ldc2_w 29, 3) := by decide +kernel
theorem d3_32 : decode prog_118_method_2_code 32 = .ok (.lxor, 1) := by decide +kernel
theorem d3_33 : decode prog_118_method_2_code 33 = .ok (.putfield 31, 3) := by decide +kernel
theorem d3_36 : decode prog_118_method_2_code 36 = .ok (.aload_n 0, 1) := by decide +kernel
theorem d3_37 : decode prog_118_method_2_code 37 = .ok (.aload_n 0, 1) := by decide +kernel
theorem d3_38 : decode prog_118_method_2_code 38 = .ok (.getfield 13, 3) := by decide +kernel
theorem d3_41 : decode prog_118_method_2_code 41 = .ok (.ldc2_w 34, 3) := by decide +kernel
theorem d3_44 : decode prog_118_method_2_code 44 = .ok (.lxor, 1) := by decide +kernel
theorem d3_45 : decode prog_118_method_2_code 45 = .ok (.putfield 36, 3) := by decide +kernel
theorem d3_48 : decode prog_118_method_2_code 48 = .ok (.aload_n 0, 1) := by decide +kernel
theorem d3_49 : decode prog_118_method_2_code 49 = .ok (.lconst 0, 1) := by decide +kernel
theorem d3_50 : decode prog_118_method_2_code 50 = .ok (.putfield 39, 3) := by decide +kernel
theorem d3_53 : decode prog_118_method_2_code 53 = .ok (.aload_n 0, 1) := by decide +kernel
theorem d3_54 : decode prog_118_method_2_code 54 = .ok (.iconst 0, 1) := by decide +kernel
theorem d3_55 : decode prog_118_method_2_code 55 = .ok (.putfield 42, 3) := by decide +kernel
theorem d3_58 : decode prog_118_method_2_code 58 = .ok (.return_, 1) := by decide +kernel
theorem ef_3 (m : MethodId) (a : Addr) : entryFrame m #[(.ref a)] 1 = (mkF m 0 #[.val (.ref a)] []) := by first | (simp [entryFrame, mkF, argsToLocals, Value.category, maxLocals]; done) | rfl
def F3_58 (g_key0 : Int64) (g_key1 : Int64) (g_v0 : Int64) (g_v1 : Int64) (g_v2 : Int64) (g_v3 : Int64) (g_word : Int64) (g_length : Int32) : Int64 × Int64 × Int64 × Int64 × Int64 × Int32 := (g_v0, g_v1, g_v2, g_v3, g_word, g_length)
def F3_53 (g_key0 : Int64) (g_key1 : Int64) (g_v0 : Int64) (g_v1 : Int64) (g_v2 : Int64) (g_v3 : Int64) (g_word : Int64) (g_length : Int32) : Int64 × Int64 × Int64 × Int64 × Int64 × Int32 := (F3_58 g_key0 g_key1 g_v0 g_v1 g_v2 g_v3 g_word (0 : Int32))
def F3_48 (g_key0 : Int64) (g_key1 : Int64) (g_v0 : Int64) (g_v1 : Int64) (g_v2 : Int64) (g_v3 : Int64) (g_word : Int64) (g_length : Int32) : Int64 × Int64 × Int64 × Int64 × Int64 × Int32 := (F3_53 g_key0 g_key1 g_v0 g_v1 g_v2 g_v3 (0 : Int64) g_length)
def F3_36 (g_key0 : Int64) (g_key1 : Int64) (g_v0 : Int64) (g_v1 : Int64) (g_v2 : Int64) (g_v3 : Int64) (g_word : Int64) (g_length : Int32) : Int64 × Int64 × Int64 × Int64 × Int64 × Int32 := (F3_48 g_key0 g_key1 g_v0 g_v1 g_v2 (g_key1 ^^^ (8387220255154660723 : Int64)) g_word g_length)
def F3_24 (g_key0 : Int64) (g_key1 : Int64) (g_v0 : Int64) (g_v1 : Int64) (g_v2 : Int64) (g_v3 : Int64) (g_word : Int64) (g_length : Int32) : Int64 × Int64 × Int64 × Int64 × Int64 × Int32 := (F3_36 g_key0 g_key1 g_v0 g_v1 (g_key0 ^^^ (7816392313619706465 : Int64)) g_v3 g_word g_length)
def F3_12 (g_key0 : Int64) (g_key1 : Int64) (g_v0 : Int64) (g_v1 : Int64) (g_v2 : Int64) (g_v3 : Int64) (g_word : Int64) (g_length : Int32) : Int64 × Int64 × Int64 × Int64 × Int64 × Int32 := (F3_24 g_key0 g_key1 g_v0 (g_key1 ^^^ (7237128888997146477 : Int64)) g_v2 g_v3 g_word g_length)
def F3_0 (g_key0 : Int64) (g_key1 : Int64) (g_v0 : Int64) (g_v1 : Int64) (g_v2 : Int64) (g_v3 : Int64) (g_word : Int64) (g_length : Int32) : Int64 × Int64 × Int64 × Int64 × Int64 × Int32 := (F3_12 g_key0 g_key1 (g_key0 ^^^ (8317987319222330741 : Int64)) g_v1 g_v2 g_v3 g_word g_length)
set_option maxRecDepth 65536 in
set_option maxHeartbeats 40000000 in
theorem rm3 (l : Launch) (Z : State) (a0 : Array Value) (hw : ∀ d ∈ tables_1, d.before a0 Z = true) (a : Addr) (g_key0 : Int64) (g_key1 : Int64) (g_v0 : Int64) (g_v1 : Int64) (g_v2 : Int64) (g_v3 : Int64) (g_word : Int64) (g_length : Int32) (h0 : Heap) (n0 : Nat) (I : own_I Z n0 h0 a g_key0 g_key1 g_v0 g_v1 g_v2 g_v3 g_word g_length) :
    own_M l Z (⟨"com/example/tomekeeper/tomekeeper/tome/SipHash", "start", "()V"⟩ : MethodName) prog_118_method_2_code 1 none ({ frames := 0, cells := 0, slots := 0, locals := 0 } : Room) #[(.ref a)] h0 (fun v h L => v = none ∧ Fr n0 L ∧ own_I Z n0 h a g_key0 g_key1 (F3_0 g_key0 g_key1 g_v0 g_v1 g_v2 g_v3 g_word g_length).1 (F3_0 g_key0 g_key1 g_v0 g_v1 g_v2 g_v3 g_word g_length).2.1 (F3_0 g_key0 g_key1 g_v0 g_v1 g_v2 g_v3 g_word g_length).2.2.1 (F3_0 g_key0 g_key1 g_v0 g_v1 g_v2 g_v3 g_word g_length).2.2.2.1 (F3_0 g_key0 g_key1 g_v0 g_v1 g_v2 g_v3 g_word g_length).2.2.2.2.1 (F3_0 g_key0 g_key1 g_v0 g_v1 g_v2 g_v3 g_word g_length).2.2.2.2.2) := by
  refine own_body pn_3 ?_
  intro p e s m below meth c T hx hby hml hown hZ hret hlk hnm X eT
  have N := Fr.nil n0
  replace I : own_I Z n0 T.heap a g_key0 g_key1 g_v0 g_v1 g_v2 g_v3 g_word g_length := by rw [eT]; exact I
  obtain ⟨w, hF⟩ : ∃ w, w = F3_0 g_key0 g_key1 g_v0 g_v1 g_v2 g_v3 g_word g_length := ⟨_, rfl⟩
  try rw [← hF]
  generalize hQ : own_Q s (fun v h L => v = none ∧ Fr n0 L ∧ own_I Z n0 h a g_key0 g_key1 w.1 w.2.1 w.2.2.1 w.2.2.2.1 w.2.2.2.2.1 w.2.2.2.2.2) ({ frames := 0, cells := 0, slots := 0, locals := 0 } : Room).cells ({ frames := 0, cells := 0, slots := 0, locals := 0 } : Room).slots = Qq
  refine own_st (fun _ k => castTop (ef_3 m a) k) ?_
  clear eT
  have B58 : ∀ (T : State) (L : List Loc) (g_v0 : Int64) (g_v1 : Int64) (g_v2 : Int64) (g_v3 : Int64) (g_word : Int64) (g_length : Int32), Stand p l e ({ frames := 0, cells := 0, slots := 0, locals := 0 } : Room) s m #[(.ref a)] below meth c T L 0 0 → own_I Z n0 T.heap a g_key0 g_key1 g_v0 g_v1 g_v2 g_v3 g_word g_length → Fr n0 L → w = F3_58 g_key0 g_key1 g_v0 g_v1 g_v2 g_v3 g_word g_length → own_E p e below Qq T (mkF m 58 #[.val (.ref a)] []) := by
    intro T L g_v0 g_v1 g_v2 g_v3 g_word g_length X I N hF
    rw [← hQ]
    exact own_retV X hx hlk hret (hb hby d3_58) (by decide) (by decide) ⟨rfl, N, (by first | (rw [hF]; exact I) | exact I)⟩
  have B53 : ∀ (T : State) (L : List Loc) (g_v0 : Int64) (g_v1 : Int64) (g_v2 : Int64) (g_v3 : Int64) (g_word : Int64) (g_length : Int32), Stand p l e ({ frames := 0, cells := 0, slots := 0, locals := 0 } : Room) s m #[(.ref a)] below meth c T L 0 0 → own_I Z n0 T.heap a g_key0 g_key1 g_v0 g_v1 g_v2 g_v3 g_word g_length → Fr n0 L → w = F3_53 g_key0 g_key1 g_v0 g_v1 g_v2 g_v3 g_word g_length → own_E p e below Qq T (mkF m 53 #[.val (.ref a)] []) := by
    intro T L g_v0 g_v1 g_v2 g_v3 g_word g_length X I N hF
    refine own_st (fun _ => XS.aloadN X.here hx rfl (hb hby d3_53) rfl rfl) ?_
    show own_E p e below Qq T (mkF m 54 #[.val (.ref a)] [(.ref a)])
    refine own_st (fun _ => XS.iconst X.here hx rfl (hb hby d3_54)) ?_
    show own_E p e below Qq T (mkF m 55 #[.val (.ref a)] [(.int (0 : Int32)), (.ref a)])
    obtain ⟨T1, h1, X1, e1, W1, st1⟩ := putF X hx hZ hown (host := "") (Or.inl (hw _ (List.mem_of_getElem? (i := 32) rfl))) Via.refl rfl (own_Ig_length I) (own_Iex I) (Or.inl (hw _ (List.mem_of_getElem? (i := 33) rfl))) (hw _ (List.mem_of_getElem? (i := 1) rfl)) (ty := .int) (by decide) rfl rfl (g := (mkF m 55 #[.val (.ref a)] [(.int (0 : Int32)), (.ref a)])) rfl rfl (hb hby d3_55)
    subst e1
    refine own_st st1 ?_
    replace N := Fr.snoc X1 N (own_Ina I)
    replace I := own_Is_length hw W1 I
    replace X := X1
    clear st1 X1
    show own_E p e below Qq T1 (mkF m 58 #[.val (.ref a)] [])
    exact B58 _ _ g_v0 g_v1 g_v2 g_v3 g_word (0 : Int32) X I N hF
  have B48 : ∀ (T : State) (L : List Loc) (g_v0 : Int64) (g_v1 : Int64) (g_v2 : Int64) (g_v3 : Int64) (g_word : Int64) (g_length : Int32), Stand p l e ({ frames := 0, cells := 0, slots := 0, locals := 0 } : Room) s m #[(.ref a)] below meth c T L 0 0 → own_I Z n0 T.heap a g_key0 g_key1 g_v0 g_v1 g_v2 g_v3 g_word g_length → Fr n0 L → w = F3_48 g_key0 g_key1 g_v0 g_v1 g_v2 g_v3 g_word g_length → own_E p e below Qq T (mkF m 48 #[.val (.ref a)] []) := by
    intro T L g_v0 g_v1 g_v2 g_v3 g_word g_length X I N hF
    refine own_st (fun _ => XS.aloadN X.here hx rfl (hb hby d3_48) rfl rfl) ?_
    show own_E p e below Qq T (mkF m 49 #[.val (.ref a)] [(.ref a)])
    refine own_st (fun _ => XT.lconst X.here hx rfl (hb hby d3_49)) ?_
    show own_E p e below Qq T (mkF m 50 #[.val (.ref a)] [(.long (0 : Int64)), (.ref a)])
    obtain ⟨T2, h2, X2, e2, W2, st2⟩ := putF X hx hZ hown (host := "") (Or.inl (hw _ (List.mem_of_getElem? (i := 30) rfl))) Via.refl rfl (own_Ig_word I) (own_Iex I) (Or.inl (hw _ (List.mem_of_getElem? (i := 31) rfl))) (hw _ (List.mem_of_getElem? (i := 1) rfl)) (ty := .long) (by decide) rfl rfl (g := (mkF m 50 #[.val (.ref a)] [(.long (0 : Int64)), (.ref a)])) rfl rfl (hb hby d3_50)
    subst e2
    refine own_st st2 ?_
    replace N := Fr.snoc X2 N (own_Ina I)
    replace I := own_Is_word hw W2 I
    replace X := X2
    clear st2 X2
    show own_E p e below Qq T2 (mkF m 53 #[.val (.ref a)] [])
    exact B53 _ _ g_v0 g_v1 g_v2 g_v3 (0 : Int64) g_length X I N hF
  have B36 : ∀ (T : State) (L : List Loc) (g_v0 : Int64) (g_v1 : Int64) (g_v2 : Int64) (g_v3 : Int64) (g_word : Int64) (g_length : Int32), Stand p l e ({ frames := 0, cells := 0, slots := 0, locals := 0 } : Room) s m #[(.ref a)] below meth c T L 0 0 → own_I Z n0 T.heap a g_key0 g_key1 g_v0 g_v1 g_v2 g_v3 g_word g_length → Fr n0 L → w = F3_36 g_key0 g_key1 g_v0 g_v1 g_v2 g_v3 g_word g_length → own_E p e below Qq T (mkF m 36 #[.val (.ref a)] []) := by
    intro T L g_v0 g_v1 g_v2 g_v3 g_word g_length X I N hF
    refine own_st (fun _ => XS.aloadN X.here hx rfl (hb hby d3_36) rfl rfl) ?_
    show own_E p e below Qq T (mkF m 37 #[.val (.ref a)] [(.ref a)])
    refine own_st (fun _ => XS.aloadN X.here hx rfl (hb hby d3_37) rfl rfl) ?_
    show own_E p e below Qq T (mkF m 38 #[.val (.ref a)] [(.ref a), (.ref a)])
    obtain ⟨T3, X3, e3, st3⟩ := getF X hx hZ hown (host := "") (Or.inl (hw _ (List.mem_of_getElem? (i := 11) rfl))) Via.refl rfl (own_Ig_key1 I) (g := (mkF m 38 #[.val (.ref a)] [(.ref a), (.ref a)])) rfl rfl (hb hby d3_38)
    refine own_st st3 ?_
    replace I := own_tr (P := fun h => own_I Z n0 h a g_key0 g_key1 g_v0 g_v1 g_v2 g_v3 g_word g_length) e3 I
    replace X := X3
    clear st3 e3 X3
    show own_E p e below Qq T3 (mkF m 41 #[.val (.ref a)] [(.long g_key1), (.ref a)])
    refine own_st (fun _ => X.ldc2J hx hown (mvT hZ (hw _ (List.mem_of_getElem? (i := 27) rfl))) rfl (hb hby d3_41)) ?_
    show own_E p e below Qq T3 (mkF m 44 #[.val (.ref a)] [(.long (8387220255154660723 : Int64)), (.long g_key1), (.ref a)])
    refine own_st (fun _ => XT.lxor X.here hx rfl (hb hby d3_44) rfl) ?_
    show own_E p e below Qq T3 (mkF m 45 #[.val (.ref a)] [(.long (g_key1 ^^^ (8387220255154660723 : Int64))), (.ref a)])
    obtain ⟨T4, h4, X4, e4, W4, st4⟩ := putF X hx hZ hown (host := "") (Or.inl (hw _ (List.mem_of_getElem? (i := 28) rfl))) Via.refl rfl (own_Ig_v3 I) (own_Iex I) (Or.inl (hw _ (List.mem_of_getElem? (i := 29) rfl))) (hw _ (List.mem_of_getElem? (i := 1) rfl)) (ty := .long) (by decide) rfl rfl (g := (mkF m 45 #[.val (.ref a)] [(.long (g_key1 ^^^ (8387220255154660723 : Int64))), (.ref a)])) rfl rfl (hb hby d3_45)
    subst e4
    refine own_st st4 ?_
    replace N := Fr.snoc X4 N (own_Ina I)
    replace I := own_Is_v3 hw W4 I
    replace X := X4
    clear st4 X4
    show own_E p e below Qq T4 (mkF m 48 #[.val (.ref a)] [])
    exact B48 _ _ g_v0 g_v1 g_v2 (g_key1 ^^^ (8387220255154660723 : Int64)) g_word g_length X I N hF
  have B24 : ∀ (T : State) (L : List Loc) (g_v0 : Int64) (g_v1 : Int64) (g_v2 : Int64) (g_v3 : Int64) (g_word : Int64) (g_length : Int32), Stand p l e ({ frames := 0, cells := 0, slots := 0, locals := 0 } : Room) s m #[(.ref a)] below meth c T L 0 0 → own_I Z n0 T.heap a g_key0 g_key1 g_v0 g_v1 g_v2 g_v3 g_word g_length → Fr n0 L → w = F3_24 g_key0 g_key1 g_v0 g_v1 g_v2 g_v3 g_word g_length → own_E p e below Qq T (mkF m 24 #[.val (.ref a)] []) := by
    intro T L g_v0 g_v1 g_v2 g_v3 g_word g_length X I N hF
    refine own_st (fun _ => XS.aloadN X.here hx rfl (hb hby d3_24) rfl rfl) ?_
    show own_E p e below Qq T (mkF m 25 #[.val (.ref a)] [(.ref a)])
    refine own_st (fun _ => XS.aloadN X.here hx rfl (hb hby d3_25) rfl rfl) ?_
    show own_E p e below Qq T (mkF m 26 #[.val (.ref a)] [(.ref a), (.ref a)])
    obtain ⟨T5, X5, e5, st5⟩ := getF X hx hZ hown (host := "") (Or.inl (hw _ (List.mem_of_getElem? (i := 9) rfl))) Via.refl rfl (own_Ig_key0 I) (g := (mkF m 26 #[.val (.ref a)] [(.ref a), (.ref a)])) rfl rfl (hb hby d3_26)
    refine own_st st5 ?_
    replace I := own_tr (P := fun h => own_I Z n0 h a g_key0 g_key1 g_v0 g_v1 g_v2 g_v3 g_word g_length) e5 I
    replace X := X5
    clear st5 e5 X5
    show own_E p e below Qq T5 (mkF m 29 #[.val (.ref a)] [(.long g_key0), (.ref a)])
    refine own_st (fun _ => X.ldc2J hx hown (mvT hZ (hw _ (List.mem_of_getElem? (i := 24) rfl))) rfl (hb hby d3_29)) ?_
    show own_E p e below Qq T5 (mkF m 32 #[.val (.ref a)] [(.long (7816392313619706465 : Int64)), (.long g_key0), (.ref a)])
    refine own_st (fun _ => XT.lxor X.here hx rfl (hb hby d3_32) rfl) ?_
    show own_E p e below Qq T5 (mkF m 33 #[.val (.ref a)] [(.long (g_key0 ^^^ (7816392313619706465 : Int64))), (.ref a)])
    obtain ⟨T6, h6, X6, e6, W6, st6⟩ := putF X hx hZ hown (host := "") (Or.inl (hw _ (List.mem_of_getElem? (i := 25) rfl))) Via.refl rfl (own_Ig_v2 I) (own_Iex I) (Or.inl (hw _ (List.mem_of_getElem? (i := 26) rfl))) (hw _ (List.mem_of_getElem? (i := 1) rfl)) (ty := .long) (by decide) rfl rfl (g := (mkF m 33 #[.val (.ref a)] [(.long (g_key0 ^^^ (7816392313619706465 : Int64))), (.ref a)])) rfl rfl (hb hby d3_33)
    subst e6
    refine own_st st6 ?_
    replace N := Fr.snoc X6 N (own_Ina I)
    replace I := own_Is_v2 hw W6 I
    replace X := X6
    clear st6 X6
    show own_E p e below Qq T6 (mkF m 36 #[.val (.ref a)] [])
    exact B36 _ _ g_v0 g_v1 (g_key0 ^^^ (7816392313619706465 : Int64)) g_v3 g_word g_length X I N hF
  have B12 : ∀ (T : State) (L : List Loc) (g_v0 : Int64) (g_v1 : Int64) (g_v2 : Int64) (g_v3 : Int64) (g_word : Int64) (g_length : Int32), Stand p l e ({ frames := 0, cells := 0, slots := 0, locals := 0 } : Room) s m #[(.ref a)] below meth c T L 0 0 → own_I Z n0 T.heap a g_key0 g_key1 g_v0 g_v1 g_v2 g_v3 g_word g_length → Fr n0 L → w = F3_12 g_key0 g_key1 g_v0 g_v1 g_v2 g_v3 g_word g_length → own_E p e below Qq T (mkF m 12 #[.val (.ref a)] []) := by
    intro T L g_v0 g_v1 g_v2 g_v3 g_word g_length X I N hF
    refine own_st (fun _ => XS.aloadN X.here hx rfl (hb hby d3_12) rfl rfl) ?_
    show own_E p e below Qq T (mkF m 13 #[.val (.ref a)] [(.ref a)])
    refine own_st (fun _ => XS.aloadN X.here hx rfl (hb hby d3_13) rfl rfl) ?_
    show own_E p e below Qq T (mkF m 14 #[.val (.ref a)] [(.ref a), (.ref a)])
    obtain ⟨T7, X7, e7, st7⟩ := getF X hx hZ hown (host := "") (Or.inl (hw _ (List.mem_of_getElem? (i := 11) rfl))) Via.refl rfl (own_Ig_key1 I) (g := (mkF m 14 #[.val (.ref a)] [(.ref a), (.ref a)])) rfl rfl (hb hby d3_14)
    refine own_st st7 ?_
    replace I := own_tr (P := fun h => own_I Z n0 h a g_key0 g_key1 g_v0 g_v1 g_v2 g_v3 g_word g_length) e7 I
    replace X := X7
    clear st7 e7 X7
    show own_E p e below Qq T7 (mkF m 17 #[.val (.ref a)] [(.long g_key1), (.ref a)])
    refine own_st (fun _ => X.ldc2J hx hown (mvT hZ (hw _ (List.mem_of_getElem? (i := 21) rfl))) rfl (hb hby d3_17)) ?_
    show own_E p e below Qq T7 (mkF m 20 #[.val (.ref a)] [(.long (7237128888997146477 : Int64)), (.long g_key1), (.ref a)])
    refine own_st (fun _ => XT.lxor X.here hx rfl (hb hby d3_20) rfl) ?_
    show own_E p e below Qq T7 (mkF m 21 #[.val (.ref a)] [(.long (g_key1 ^^^ (7237128888997146477 : Int64))), (.ref a)])
    obtain ⟨T8, h8, X8, e8, W8, st8⟩ := putF X hx hZ hown (host := "") (Or.inl (hw _ (List.mem_of_getElem? (i := 22) rfl))) Via.refl rfl (own_Ig_v1 I) (own_Iex I) (Or.inl (hw _ (List.mem_of_getElem? (i := 23) rfl))) (hw _ (List.mem_of_getElem? (i := 1) rfl)) (ty := .long) (by decide) rfl rfl (g := (mkF m 21 #[.val (.ref a)] [(.long (g_key1 ^^^ (7237128888997146477 : Int64))), (.ref a)])) rfl rfl (hb hby d3_21)
    subst e8
    refine own_st st8 ?_
    replace N := Fr.snoc X8 N (own_Ina I)
    replace I := own_Is_v1 hw W8 I
    replace X := X8
    clear st8 X8
    show own_E p e below Qq T8 (mkF m 24 #[.val (.ref a)] [])
    exact B24 _ _ g_v0 (g_key1 ^^^ (7237128888997146477 : Int64)) g_v2 g_v3 g_word g_length X I N hF
  show own_E p e below Qq T (mkF m 0 #[.val (.ref a)] [])
  refine own_st (fun _ => XS.aloadN X.here hx rfl (hb hby d3_0) rfl rfl) ?_
  show own_E p e below Qq T (mkF m 1 #[.val (.ref a)] [(.ref a)])
  refine own_st (fun _ => XS.aloadN X.here hx rfl (hb hby d3_1) rfl rfl) ?_
  show own_E p e below Qq T (mkF m 2 #[.val (.ref a)] [(.ref a), (.ref a)])
  obtain ⟨T9, X9, e9, st9⟩ := getF X hx hZ hown (host := "") (Or.inl (hw _ (List.mem_of_getElem? (i := 9) rfl))) Via.refl rfl (own_Ig_key0 I) (g := (mkF m 2 #[.val (.ref a)] [(.ref a), (.ref a)])) rfl rfl (hb hby d3_2)
  refine own_st st9 ?_
  replace I := own_tr (P := fun h => own_I Z n0 h a g_key0 g_key1 g_v0 g_v1 g_v2 g_v3 g_word g_length) e9 I
  replace X := X9
  clear st9 e9 X9
  show own_E p e below Qq T9 (mkF m 5 #[.val (.ref a)] [(.long g_key0), (.ref a)])
  refine own_st (fun _ => X.ldc2J hx hown (mvT hZ (hw _ (List.mem_of_getElem? (i := 18) rfl))) rfl (hb hby d3_5)) ?_
  show own_E p e below Qq T9 (mkF m 8 #[.val (.ref a)] [(.long (8317987319222330741 : Int64)), (.long g_key0), (.ref a)])
  refine own_st (fun _ => XT.lxor X.here hx rfl (hb hby d3_8) rfl) ?_
  show own_E p e below Qq T9 (mkF m 9 #[.val (.ref a)] [(.long (g_key0 ^^^ (8317987319222330741 : Int64))), (.ref a)])
  obtain ⟨T10, h10, X10, e10, W10, st10⟩ := putF X hx hZ hown (host := "") (Or.inl (hw _ (List.mem_of_getElem? (i := 19) rfl))) Via.refl rfl (own_Ig_v0 I) (own_Iex I) (Or.inl (hw _ (List.mem_of_getElem? (i := 20) rfl))) (hw _ (List.mem_of_getElem? (i := 1) rfl)) (ty := .long) (by decide) rfl rfl (g := (mkF m 9 #[.val (.ref a)] [(.long (g_key0 ^^^ (8317987319222330741 : Int64))), (.ref a)])) rfl rfl (hb hby d3_9)
  subst e10
  refine own_st st10 ?_
  replace N := Fr.snoc X10 N (own_Ina I)
  replace I := own_Is_v0 hw W10 I
  replace X := X10
  clear st10 X10
  show own_E p e below Qq T10 (mkF m 12 #[.val (.ref a)] [])
  exact B12 _ _ (g_key0 ^^^ (8317987319222330741 : Int64)) g_v1 g_v2 g_v3 g_word g_length X I N hF
theorem pd_1 : parseMethodDescriptor "(JJ)V" = some ⟨[.long, .long], none⟩ := by decide +kernel
theorem d1_0 : decode prog_118_method_1_code 0 = .ok (.aload_n 0, 1) := by decide +kernel
theorem d1_1 : decode prog_118_method_1_code 1 = .ok (.invokespecial 1, 3) := by decide +kernel
theorem d1_4 : decode prog_118_method_1_code 4 = .ok (.aload_n 0, 1) := by decide +kernel
theorem d1_5 : decode prog_118_method_1_code 5 = .ok (.lload_n 1, 1) := by decide +kernel
theorem d1_6 : decode prog_118_method_1_code 6 = .ok (.putfield 7, 3) := by decide +kernel
theorem d1_9 : decode prog_118_method_1_code 9 = .ok (.aload_n 0, 1) := by decide +kernel
theorem d1_10 : decode prog_118_method_1_code 10 = .ok (.lload_n 3, 1) := by decide +kernel
theorem d1_11 : decode prog_118_method_1_code 11 = .ok (.putfield 13, 3) := by decide +kernel
theorem d1_14 : decode prog_118_method_1_code 14 = .ok (.aload_n 0, 1) := by decide +kernel
theorem d1_15 : decode prog_118_method_1_code 15 = .ok (.invokevirtual 16, 3) := by decide +kernel
theorem d1_18 : decode prog_118_method_1_code 18 = .ok (.return_, 1) := by decide +kernel
theorem ef_1 (m : MethodId) (a : Addr) (p0 : Int64) (p1 : Int64) : entryFrame m #[(.ref a), (.long p0), (.long p1)] 5 = (mkF m 0 #[.val (.ref a), .val (.long p0), .second, .val (.long p1), .second] []) := by first | (simp [entryFrame, mkF, argsToLocals, Value.category, maxLocals]; done) | rfl
def F1_18 (x0 : Int64) (x1 : Int64) (g_key0 : Int64) (g_key1 : Int64) (g_v0 : Int64) (g_v1 : Int64) (g_v2 : Int64) (g_v3 : Int64) (g_word : Int64) (g_length : Int32) : Int64 × Int64 × Int64 × Int64 × Int64 × Int64 × Int64 × Int32 := (g_key0, g_key1, g_v0, g_v1, g_v2, g_v3, g_word, g_length)
def F1_14 (x0 : Int64) (x1 : Int64) (g_key0 : Int64) (g_key1 : Int64) (g_v0 : Int64) (g_v1 : Int64) (g_v2 : Int64) (g_v3 : Int64) (g_word : Int64) (g_length : Int32) : Int64 × Int64 × Int64 × Int64 × Int64 × Int64 × Int64 × Int32 := (F1_18 x0 x1 g_key0 g_key1 (F3_0 g_key0 g_key1 g_v0 g_v1 g_v2 g_v3 g_word g_length).1 (F3_0 g_key0 g_key1 g_v0 g_v1 g_v2 g_v3 g_word g_length).2.1 (F3_0 g_key0 g_key1 g_v0 g_v1 g_v2 g_v3 g_word g_length).2.2.1 (F3_0 g_key0 g_key1 g_v0 g_v1 g_v2 g_v3 g_word g_length).2.2.2.1 (F3_0 g_key0 g_key1 g_v0 g_v1 g_v2 g_v3 g_word g_length).2.2.2.2.1 (F3_0 g_key0 g_key1 g_v0 g_v1 g_v2 g_v3 g_word g_length).2.2.2.2.2)
def F1_9 (x0 : Int64) (x1 : Int64) (g_key0 : Int64) (g_key1 : Int64) (g_v0 : Int64) (g_v1 : Int64) (g_v2 : Int64) (g_v3 : Int64) (g_word : Int64) (g_length : Int32) : Int64 × Int64 × Int64 × Int64 × Int64 × Int64 × Int64 × Int32 := (F1_14 x0 x1 g_key0 x1 g_v0 g_v1 g_v2 g_v3 g_word g_length)
def F1_0 (x0 : Int64) (x1 : Int64) (g_key0 : Int64) (g_key1 : Int64) (g_v0 : Int64) (g_v1 : Int64) (g_v2 : Int64) (g_v3 : Int64) (g_word : Int64) (g_length : Int32) : Int64 × Int64 × Int64 × Int64 × Int64 × Int64 × Int64 × Int32 := (F1_9 x0 x1 x0 g_key1 g_v0 g_v1 g_v2 g_v3 g_word g_length)
set_option maxRecDepth 65536 in
set_option maxHeartbeats 40000000 in
theorem rm1 (l : Launch) (Z : State) (a0 : Array Value) (hw : ∀ d ∈ tables_1, d.before a0 Z = true) (a : Addr) (p0 : Int64) (p1 : Int64) (g_key0 : Int64) (g_key1 : Int64) (g_v0 : Int64) (g_v1 : Int64) (g_v2 : Int64) (g_v3 : Int64) (g_word : Int64) (g_length : Int32) (h0 : Heap) (n0 : Nat) (I : own_I Z n0 h0 a g_key0 g_key1 g_v0 g_v1 g_v2 g_v3 g_word g_length) :
    own_M l Z (⟨"com/example/tomekeeper/tomekeeper/tome/SipHash", "<init>", "(JJ)V"⟩ : MethodName) prog_118_method_1_code 5 none ({ frames := 1, cells := 0, slots := 0, locals := 20 } : Room) #[(.ref a), (.long p0), (.long p1)] h0 (fun v h L => v = none ∧ Fr n0 L ∧ own_I Z n0 h a (F1_0 p0 p1 g_key0 g_key1 g_v0 g_v1 g_v2 g_v3 g_word g_length).1 (F1_0 p0 p1 g_key0 g_key1 g_v0 g_v1 g_v2 g_v3 g_word g_length).2.1 (F1_0 p0 p1 g_key0 g_key1 g_v0 g_v1 g_v2 g_v3 g_word g_length).2.2.1 (F1_0 p0 p1 g_key0 g_key1 g_v0 g_v1 g_v2 g_v3 g_word g_length).2.2.2.1 (F1_0 p0 p1 g_key0 g_key1 g_v0 g_v1 g_v2 g_v3 g_word g_length).2.2.2.2.1 (F1_0 p0 p1 g_key0 g_key1 g_v0 g_v1 g_v2 g_v3 g_word g_length).2.2.2.2.2.1 (F1_0 p0 p1 g_key0 g_key1 g_v0 g_v1 g_v2 g_v3 g_word g_length).2.2.2.2.2.2.1 (F1_0 p0 p1 g_key0 g_key1 g_v0 g_v1 g_v2 g_v3 g_word g_length).2.2.2.2.2.2.2) := by
  refine own_body pn_3 ?_
  intro p e s m below meth c T hx hby hml hown hZ hret hlk hnm X eT
  have N := Fr.nil n0
  replace I : own_I Z n0 T.heap a g_key0 g_key1 g_v0 g_v1 g_v2 g_v3 g_word g_length := by rw [eT]; exact I
  obtain ⟨w, hF⟩ : ∃ w, w = F1_0 p0 p1 g_key0 g_key1 g_v0 g_v1 g_v2 g_v3 g_word g_length := ⟨_, rfl⟩
  try rw [← hF]
  generalize hQ : own_Q s (fun v h L => v = none ∧ Fr n0 L ∧ own_I Z n0 h a w.1 w.2.1 w.2.2.1 w.2.2.2.1 w.2.2.2.2.1 w.2.2.2.2.2.1 w.2.2.2.2.2.2.1 w.2.2.2.2.2.2.2) ({ frames := 1, cells := 0, slots := 0, locals := 20 } : Room).cells ({ frames := 1, cells := 0, slots := 0, locals := 20 } : Room).slots = Qq
  refine own_st (fun _ k => castTop (ef_1 m a p0 p1) k) ?_
  clear eT
  have B18 : ∀ (T : State) (L : List Loc) (x0 : Int64) (x1 : Int64) (g_key0 : Int64) (g_key1 : Int64) (g_v0 : Int64) (g_v1 : Int64) (g_v2 : Int64) (g_v3 : Int64) (g_word : Int64) (g_length : Int32), Stand p l e ({ frames := 1, cells := 0, slots := 0, locals := 20 } : Room) s m #[(.ref a), (.long p0), (.long p1)] below meth c T L 0 0 → own_I Z n0 T.heap a g_key0 g_key1 g_v0 g_v1 g_v2 g_v3 g_word g_length → Fr n0 L → w = F1_18 x0 x1 g_key0 g_key1 g_v0 g_v1 g_v2 g_v3 g_word g_length → own_E p e below Qq T (mkF m 18 #[.val (.ref a), .val (.long x0), .second, .val (.long x1), .second] []) := by
    intro T L x0 x1 g_key0 g_key1 g_v0 g_v1 g_v2 g_v3 g_word g_length X I N hF
    rw [← hQ]
    exact own_retV X hx hlk hret (hb hby d1_18) (by decide) (by decide) ⟨rfl, N, (by first | (rw [hF]; exact I) | exact I)⟩
  have B14 : ∀ (T : State) (L : List Loc) (x0 : Int64) (x1 : Int64) (g_key0 : Int64) (g_key1 : Int64) (g_v0 : Int64) (g_v1 : Int64) (g_v2 : Int64) (g_v3 : Int64) (g_word : Int64) (g_length : Int32), Stand p l e ({ frames := 1, cells := 0, slots := 0, locals := 20 } : Room) s m #[(.ref a), (.long p0), (.long p1)] below meth c T L 0 0 → own_I Z n0 T.heap a g_key0 g_key1 g_v0 g_v1 g_v2 g_v3 g_word g_length → Fr n0 L → w = F1_14 x0 x1 g_key0 g_key1 g_v0 g_v1 g_v2 g_v3 g_word g_length → own_E p e below Qq T (mkF m 14 #[.val (.ref a), .val (.long x0), .second, .val (.long x1), .second] []) := by
    intro T L x0 x1 g_key0 g_key1 g_v0 g_v1 g_v2 g_v3 g_word g_length X I N hF
    refine own_st (fun _ => XS.aloadN X.here hx rfl (hb hby d1_14) rfl rfl) ?_
    show own_E p e below Qq T (mkF m 15 #[.val (.ref a), .val (.long x0), .second, .val (.long x1), .second] [(.ref a)])
    refine own_callV X hx hZ hown (hw _ (List.mem_of_getElem? (i := 13) rfl)) (hw _ (List.mem_of_getElem? (i := 14) rfl)) (hw _ (List.mem_of_getElem? (i := 16) rfl)) (hw _ (List.mem_of_getElem? (i := 15) rfl)) (hw _ (List.mem_of_getElem? (i := 2) rfl)) (hw _ (List.mem_of_getElem? (i := 17) rfl)) (by decide) (own_Iex I) (W := 0) (argsL := []) (rest := []) (rm3 l Z a0 hw a g_key0 g_key1 g_v0 g_v1 g_v2 g_v3 g_word g_length _ n0 I) (by decide) (by decide) (by decide) (by decide) rfl (by rw [hml]; rfl) (lenOf pd_3 rfl) rfl (by show 2 * 0 + _ ≤ _; exact Nat.le_of_eq rfl) (hb hby d1_15) ?_
    intro T1 L1 v X' hq
    obtain ⟨rfl, N', I'⟩ := hq
    replace I := I'
    replace N := Fr.app N N'
    replace X : Stand p l e ({ frames := 1, cells := 0, slots := 0, locals := 20 } : Room) s m #[(.ref a), (.long p0), (.long p1)] below meth c T1 _ 0 0 := X'
    clear X' N' I'
    show own_E p e below Qq T1 (mkF m 18 #[.val (.ref a), .val (.long x0), .second, .val (.long x1), .second] [])
    exact B18 _ _ x0 x1 g_key0 g_key1 (F3_0 g_key0 g_key1 g_v0 g_v1 g_v2 g_v3 g_word g_length).1 (F3_0 g_key0 g_key1 g_v0 g_v1 g_v2 g_v3 g_word g_length).2.1 (F3_0 g_key0 g_key1 g_v0 g_v1 g_v2 g_v3 g_word g_length).2.2.1 (F3_0 g_key0 g_key1 g_v0 g_v1 g_v2 g_v3 g_word g_length).2.2.2.1 (F3_0 g_key0 g_key1 g_v0 g_v1 g_v2 g_v3 g_word g_length).2.2.2.2.1 (F3_0 g_key0 g_key1 g_v0 g_v1 g_v2 g_v3 g_word g_length).2.2.2.2.2 X I N hF
  have B9 : ∀ (T : State) (L : List Loc) (x0 : Int64) (x1 : Int64) (g_key0 : Int64) (g_key1 : Int64) (g_v0 : Int64) (g_v1 : Int64) (g_v2 : Int64) (g_v3 : Int64) (g_word : Int64) (g_length : Int32), Stand p l e ({ frames := 1, cells := 0, slots := 0, locals := 20 } : Room) s m #[(.ref a), (.long p0), (.long p1)] below meth c T L 0 0 → own_I Z n0 T.heap a g_key0 g_key1 g_v0 g_v1 g_v2 g_v3 g_word g_length → Fr n0 L → w = F1_9 x0 x1 g_key0 g_key1 g_v0 g_v1 g_v2 g_v3 g_word g_length → own_E p e below Qq T (mkF m 9 #[.val (.ref a), .val (.long x0), .second, .val (.long x1), .second] []) := by
    intro T L x0 x1 g_key0 g_key1 g_v0 g_v1 g_v2 g_v3 g_word g_length X I N hF
    refine own_st (fun _ => XS.aloadN X.here hx rfl (hb hby d1_9) rfl rfl) ?_
    show own_E p e below Qq T (mkF m 10 #[.val (.ref a), .val (.long x0), .second, .val (.long x1), .second] [(.ref a)])
    refine own_st (fun _ => XT.lloadN X.here hx rfl (hb hby d1_10) rfl) ?_
    show own_E p e below Qq T (mkF m 11 #[.val (.ref a), .val (.long x0), .second, .val (.long x1), .second] [(.long x1), (.ref a)])
    obtain ⟨T2, h2, X2, e2, W2, st2⟩ := putF X hx hZ hown (host := "") (Or.inl (hw _ (List.mem_of_getElem? (i := 11) rfl))) Via.refl rfl (own_Ig_key1 I) (own_Iex I) (Or.inr ⟨(hw _ (List.mem_of_getElem? (i := 12) rfl)), rfl, hnm⟩) (hw _ (List.mem_of_getElem? (i := 1) rfl)) (ty := .long) (by decide) rfl rfl (g := (mkF m 11 #[.val (.ref a), .val (.long x0), .second, .val (.long x1), .second] [(.long x1), (.ref a)])) rfl rfl (hb hby d1_11)
    subst e2
    refine own_st st2 ?_
    replace N := Fr.snoc X2 N (own_Ina I)
    replace I := own_Is_key1 hw W2 I
    replace X := X2
    clear st2 X2
    show own_E p e below Qq T2 (mkF m 14 #[.val (.ref a), .val (.long x0), .second, .val (.long x1), .second] [])
    exact B14 _ _ x0 x1 g_key0 x1 g_v0 g_v1 g_v2 g_v3 g_word g_length X I N hF
  show own_E p e below Qq T (mkF m 0 #[.val (.ref a), .val (.long p0), .second, .val (.long p1), .second] [])
  refine own_st (fun _ => XS.aloadN X.here hx rfl (hb hby d1_0) rfl rfl) ?_
  show own_E p e below Qq T (mkF m 1 #[.val (.ref a), .val (.long p0), .second, .val (.long p1), .second] [(.ref a)])
  obtain ⟨T3, X3, e3, st3⟩ := initO X hx hZ hown (hw _ (List.mem_of_getElem? (i := 6) rfl)) (hw _ (List.mem_of_getElem? (i := 7) rfl)) (hw _ (List.mem_of_getElem? (i := 8) rfl)) rfl (g := (mkF m 1 #[.val (.ref a), .val (.long p0), .second, .val (.long p1), .second] [(.ref a)])) rfl (by rw [hml]; rfl) rfl (hb hby d1_1) (by decide) (W := 0) (by show 2 * 0 + _ ≤ _; exact Nat.le_of_eq rfl) (by decide)
  refine own_st st3 ?_
  replace I := own_tr (P := fun h => own_I Z n0 h a g_key0 g_key1 g_v0 g_v1 g_v2 g_v3 g_word g_length) e3 I
  replace X := X3
  clear st3 e3 X3
  show own_E p e below Qq T3 (mkF m 4 #[.val (.ref a), .val (.long p0), .second, .val (.long p1), .second] [])
  refine own_st (fun _ => XS.aloadN X.here hx rfl (hb hby d1_4) rfl rfl) ?_
  show own_E p e below Qq T3 (mkF m 5 #[.val (.ref a), .val (.long p0), .second, .val (.long p1), .second] [(.ref a)])
  refine own_st (fun _ => XT.lloadN X.here hx rfl (hb hby d1_5) rfl) ?_
  show own_E p e below Qq T3 (mkF m 6 #[.val (.ref a), .val (.long p0), .second, .val (.long p1), .second] [(.long p0), (.ref a)])
  obtain ⟨T4, h4, X4, e4, W4, st4⟩ := putF X hx hZ hown (host := "") (Or.inl (hw _ (List.mem_of_getElem? (i := 9) rfl))) Via.refl rfl (own_Ig_key0 I) (own_Iex I) (Or.inr ⟨(hw _ (List.mem_of_getElem? (i := 10) rfl)), rfl, hnm⟩) (hw _ (List.mem_of_getElem? (i := 1) rfl)) (ty := .long) (by decide) rfl rfl (g := (mkF m 6 #[.val (.ref a), .val (.long p0), .second, .val (.long p1), .second] [(.long p0), (.ref a)])) rfl rfl (hb hby d1_6)
  subst e4
  refine own_st st4 ?_
  replace N := Fr.snoc X4 N (own_Ina I)
  replace I := own_Is_key0 hw W4 I
  replace X := X4
  clear st4 X4
  show own_E p e below Qq T4 (mkF m 9 #[.val (.ref a), .val (.long p0), .second, .val (.long p1), .second] [])
  exact B9 _ _ p0 p1 p0 g_key1 g_v0 g_v1 g_v2 g_v3 g_word g_length X I N hF
theorem pn_7 : plainName "java/lang/Long" = true := by first | (simp [plainName, overriddenIn]; done) | decide +kernel
theorem pd_7 : parseMethodDescriptor "(JI)J" = some ⟨[.long, .int], some .long⟩ := by decide +kernel
theorem d7_0 : decode jdk_35_method_51_code 0 = .ok (.lload_n 0, 1) := by decide +kernel
theorem d7_1 : decode jdk_35_method_51_code 1 = .ok (.iload_n 2, 1) := by decide +kernel
theorem d7_2 : decode jdk_35_method_51_code 2 = .ok (.lshl, 1) := by decide +kernel
theorem d7_3 : decode jdk_35_method_51_code 3 = .ok (.lload_n 0, 1) := by decide +kernel
theorem d7_4 : decode jdk_35_method_51_code 4 = .ok (.iload_n 2, 1) := by decide +kernel
theorem d7_5 : decode jdk_35_method_51_code 5 = .ok (.ineg, 1) := by decide +kernel
theorem d7_6 : decode jdk_35_method_51_code 6 = .ok (.lushr, 1) := by decide +kernel
theorem d7_7 : decode jdk_35_method_51_code 7 = .ok (.lor, 1) := by decide +kernel
theorem d7_8 : decode jdk_35_method_51_code 8 = .ok (.lreturn, 1) := by decide +kernel
theorem ef_7 (m : MethodId) (p0 : Int64) (p1 : Int32) : entryFrame m #[(.long p0), (.int p1)] 3 = (mkF m 0 #[.val (.long p0), .second, .val (.int p1)] []) := by first | (simp [entryFrame, mkF, argsToLocals, Value.category, maxLocals]; done) | rfl
def F7_0 (x0 : Int64) (x1 : Int32) : Int64 := ((x0 <<< (x1.toInt64 &&& 63)) ||| (XT.ushrL x0 (-x1)))
set_option maxRecDepth 65536 in
set_option maxHeartbeats 40000000 in
theorem rm7 (l : Launch) (Z : State) (a0 : Array Value) (hw : ∀ d ∈ tables_1, d.before a0 Z = true) (p0 : Int64) (p1 : Int32) (h0 : Heap) (n0 : Nat) :
    own_M l Z (⟨"java/lang/Long", "rotateLeft", "(JI)J"⟩ : MethodName) jdk_35_method_51_code 3 (some .long) ({ frames := 0, cells := 0, slots := 0, locals := 0 } : Room) #[(.long p0), (.int p1)] h0 (fun v h L => v = some (.long (F7_0 p0 p1)) ∧ Fr n0 L ∧ h = h0) := by
  refine own_body pn_7 ?_
  intro p e s m below meth c T hx hby hml hown hZ hret hlk hnm X eT
  have N := Fr.nil n0
  obtain ⟨w, hF⟩ : ∃ w, w = F7_0 p0 p1 := ⟨_, rfl⟩
  try rw [← hF]
  generalize hQ : own_Q s (fun v h L => v = some (.long w) ∧ Fr n0 L ∧ h = h0) ({ frames := 0, cells := 0, slots := 0, locals := 0 } : Room).cells ({ frames := 0, cells := 0, slots := 0, locals := 0 } : Room).slots = Qq
  refine own_st (fun _ k => castTop (ef_7 m p0 p1) k) ?_
  show own_E p e below Qq T (mkF m 0 #[.val (.long p0), .second, .val (.int p1)] [])
  refine own_st (fun _ => XT.lloadN X.here hx rfl (hb hby d7_0) rfl) ?_
  show own_E p e below Qq T (mkF m 1 #[.val (.long p0), .second, .val (.int p1)] [(.long p0)])
  refine own_st (fun _ => XS.iloadN X.here hx rfl (hb hby d7_1) rfl) ?_
  show own_E p e below Qq T (mkF m 2 #[.val (.long p0), .second, .val (.int p1)] [(.int p1), (.long p0)])
  refine own_st (fun _ => XT.lshl X.here hx rfl (hb hby d7_2) rfl) ?_
  show own_E p e below Qq T (mkF m 3 #[.val (.long p0), .second, .val (.int p1)] [(.long (p0 <<< (p1.toInt64 &&& 63)))])
  refine own_st (fun _ => XT.lloadN X.here hx rfl (hb hby d7_3) rfl) ?_
  show own_E p e below Qq T (mkF m 4 #[.val (.long p0), .second, .val (.int p1)] [(.long p0), (.long (p0 <<< (p1.toInt64 &&& 63)))])
  refine own_st (fun _ => XS.iloadN X.here hx rfl (hb hby d7_4) rfl) ?_
  show own_E p e below Qq T (mkF m 5 #[.val (.long p0), .second, .val (.int p1)] [(.int p1), (.long p0), (.long (p0 <<< (p1.toInt64 &&& 63)))])
  refine own_st (fun _ => XS.ineg X.here hx rfl (hb hby d7_5) rfl) ?_
  show own_E p e below Qq T (mkF m 6 #[.val (.long p0), .second, .val (.int p1)] [(.int (-p1)), (.long p0), (.long (p0 <<< (p1.toInt64 &&& 63)))])
  refine own_st (fun _ => XT.lushr X.here hx rfl (hb hby d7_6) rfl) ?_
  show own_E p e below Qq T (mkF m 7 #[.val (.long p0), .second, .val (.int p1)] [(.long (XT.ushrL p0 (-p1))), (.long (p0 <<< (p1.toInt64 &&& 63)))])
  refine own_st (fun _ => XT.lor X.here hx rfl (hb hby d7_7) rfl) ?_
  show own_E p e below Qq T (mkF m 8 #[.val (.long p0), .second, .val (.int p1)] [(.long ((p0 <<< (p1.toInt64 &&& 63)) ||| (XT.ushrL p0 (-p1))))])
  rw [← hQ]
  exact own_retJ X hx hlk hret (hb hby d7_8) (by decide) (by decide) ⟨by (rw [hF]; try rfl), N, eT⟩
theorem d6_0 : decode prog_118_method_8_code 0 = .ok (.aload_n 0, 1) := by decide +kernel
theorem d6_1 : decode prog_118_method_8_code 1 = .ok (.dup, 1) := by decide +kernel
theorem d6_2 : decode prog_118_method_8_code 2 = .ok (.getfield 21, 3) := by decide +kernel
theorem d6_5 : decode prog_118_method_8_code 5 = .ok (.aload_n 0, 1) := by decide +kernel
theorem d6_6 : decode prog_118_method_8_code 6 = .ok (.getfield 26, 3) := by decide +kernel
theorem d6_9 : decode prog_118_method_8_code 9 = .ok (.ladd, 1) := by decide +kernel
theorem d6_10 : decode prog_118_method_8_code 10 = .ok (.putfield 21, 3) := by decide +kernel
theorem d6_13 : decode prog_118_method_8_code 13 = .ok (.aload_n 0, 1) := by decide +kernel
theorem d6_14 : decode prog_118_method_8_code 14 = .ok (.aload_n 0, 1) := by decide +kernel
theorem d6_15 : decode prog_118_method_8_code 15 = .ok (.getfield 26, 3) := by decide +kernel
theorem d6_18 : decode prog_118_method_8_code 18 = .ok (.bipush 13, 2) := by decide +kernel
theorem d6_20 : decode prog_118_method_8_code 20 = .ok (.invokestatic 62, 3) := by decide +kernel
theorem d6_23 : decode prog_118_method_8_code 23 = .ok (.aload_n 0, 1) := by decide +kernel
theorem d6_24 : decode prog_118_method_8_code 24 = .ok (.getfield 21, 3) := by decide +kernel
theorem d6_27 : decode prog_118_method_8_code 27 = .ok (.lxor, 1) := by decide +kernel
theorem d6_28 : decode prog_118_method_8_code 28 = .ok (.putfield 26, 3) := by decide +kernel
theorem d6_31 : decode prog_118_method_8_code 31 = .ok (.aload_n 0, 1) := by decide +kernel
theorem d6_32 : decode prog_118_method_8_code 32 = .ok (.aload_n 0, 1) := by decide +kernel
theorem d6_33 : decode prog_118_method_8_code 33 = .ok (.getfield 21, 3) := by decide +kernel
theorem d6_36 : decode prog_118_method_8_code 36 = .ok (.bipush 32, 2) := by decide +kernel
theorem d6_38 : decode prog_118_method_8_code 38 = .ok (.invokestatic 62, 3) := by decide +kernel
theorem d6_41 : decode prog_118_method_8_code 41 = .ok (.putfield 21, 3) := by decide +kernel
theorem d6_44 : decode prog_118_method_8_code 44 = .ok (.aload_n 0, 1) := by decide +kernel
theorem d6_45 : decode prog_118_method_8_code 45 = .ok (.dup, 1) := by decide +kernel
theorem d6_46 : decode prog_118_method_8_code 46 = .ok (.getfield 31, 3) := by decide +kernel
theorem d6_49 : decode prog_118_method_8_code 49 = .ok (.aload_n 0, 1) := by decide +kernel
theorem d6_50 : decode prog_118_method_8_code 50 = .ok (.getfield 36, 3) := by decide +kernel
theorem d6_53 : decode prog_118_method_8_code 53 = .ok (.ladd, 1) := by decide +kernel
theorem d6_54 : decode prog_118_method_8_code 54 = .ok (.putfield 31, 3) := by decide +kernel
theorem d6_57 : decode prog_118_method_8_code 57 = .ok (.aload_n 0, 1) := by decide +kernel
theorem d6_58 : decode prog_118_method_8_code 58 = .ok (.aload_n 0, 1) := by decide +kernel
theorem d6_59 : decode prog_118_method_8_code 59 = .ok (.getfield 36, 3) := by decide +kernel
theorem d6_62 : decode prog_118_method_8_code 62 = .ok (.bipush 16, 2) := by decide +kernel
theorem d6_64 : decode prog_118_method_8_code 64 = .ok (.invokestatic 62, 3) := by decide +kernel
theorem d6_67 : decode prog_118_method_8_code 67 = .ok (.aload_n 0, 1) := by decide +kernel
theorem d6_68 : decode prog_118_method_8_code 68 = .ok (.getfield 31, 3) := by decide +kernel
theorem d6_71 : decode prog_118_method_8_code 71 = .ok (.lxor, 1) := by decide +kernel
theorem d6_72 : decode prog_118_method_8_code 72 = .ok (.putfield 36, 3) := by decide +kernel
theorem d6_75 : decode prog_118_method_8_code 75 = .ok (.aload_n 0, 1) := by decide +kernel
theorem d6_76 : decode prog_118_method_8_code 76 = .ok (.dup, 1) := by decide +kernel
theorem d6_77 : decode prog_118_method_8_code 77 = .ok (.getfield 21, 3) := by decide +kernel
theorem d6_80 : decode prog_118_method_8_code 80 = .ok (.aload_n 0, 1) := by decide +kernel
theorem d6_81 : decode prog_118_method_8_code 81 = .ok (.getfield 36, 3) := by decide +kernel
theorem d6_84 : decode prog_118_method_8_code 84 = .ok (.ladd, 1) := by decide +kernel
theorem d6_85 : decode prog_118_method_8_code 85 = .ok (.putfield 21, 3) := by decide +kernel
theorem d6_88 : decode prog_118_method_8_code 88 = .ok (.aload_n 0, 1) := by decide +kernel
theorem d6_89 : decode prog_118_method_8_code 89 = .ok (.aload_n 0, 1) := by decide +kernel
theorem d6_90 : decode prog_118_method_8_code 90 = .ok (.getfield 36, 3) := by decide +kernel
theorem d6_93 : decode prog_118_method_8_code 93 = .ok (.bipush 21, 2) := by decide +kernel
theorem d6_95 : decode prog_118_method_8_code 95 = .ok (.invokestatic 62, 3) := by decide +kernel
theorem d6_98 : decode prog_118_method_8_code 98 = .ok (.aload_n 0, 1) := by decide +kernel
theorem d6_99 : decode prog_118_method_8_code 99 = .ok (.getfield 21, 3) := by decide +kernel
theorem d6_102 : decode prog_118_method_8_code 102 = .ok (.lxor, 1) := by decide +kernel
theorem d6_103 : decode prog_118_method_8_code 103 = .ok (.putfield 36, 3) := by decide +kernel
theorem d6_106 : decode prog_118_method_8_code 106 = .ok (.aload_n 0, 1) := by decide +kernel
theorem d6_107 : decode prog_118_method_8_code 107 = .ok (.dup, 1) := by decide +kernel
theorem d6_108 : decode prog_118_method_8_code 108 = .ok (.getfield 31, 3) := by decide +kernel
theorem d6_111 : decode prog_118_method_8_code 111 = .ok (.aload_n 0, 1) := by decide +kernel
theorem d6_112 : decode prog_118_method_8_code 112 = .ok (.getfield 26, 3) := by decide +kernel
theorem d6_115 : decode prog_118_method_8_code 115 = .ok (.ladd, 1) := by decide +kernel
theorem d6_116 : decode prog_118_method_8_code 116 = .ok (.putfield 31, 3) := by decide +kernel
theorem d6_119 : decode prog_118_method_8_code 119 = .ok (.aload_n 0, 1) := by decide +kernel
theorem d6_120 : decode prog_118_method_8_code 120 = .ok (.aload_n 0, 1) := by decide +kernel
theorem d6_121 : decode prog_118_method_8_code 121 = .ok (.getfield 26, 3) := by decide +kernel
theorem d6_124 : decode prog_118_method_8_code 124 = .ok (.bipush 17, 2) := by decide +kernel
theorem d6_126 : decode prog_118_method_8_code 126 = .ok (.invokestatic 62, 3) := by decide +kernel
theorem d6_129 : decode prog_118_method_8_code 129 = .ok (.aload_n 0, 1) := by decide +kernel
theorem d6_130 : decode prog_118_method_8_code 130 = .ok (.getfield 31, 3) := by decide +kernel
theorem d6_133 : decode prog_118_method_8_code 133 = .ok (.lxor, 1) := by decide +kernel
theorem d6_134 : decode prog_118_method_8_code 134 = .ok (.putfield 26, 3) := by decide +kernel
theorem d6_137 : decode prog_118_method_8_code 137 = .ok (.aload_n 0, 1) := by decide +kernel
theorem d6_138 : decode prog_118_method_8_code 138 = .ok (.aload_n 0, 1) := by decide +kernel
theorem d6_139 : decode prog_118_method_8_code 139 = .ok (.getfield 31, 3) := by decide +kernel
theorem d6_142 : decode prog_118_method_8_code 142 = .ok (.bipush 32, 2) := by decide +kernel
theorem d6_144 : decode prog_118_method_8_code 144 = .ok (.invokestatic 62, 3) := by decide +kernel
theorem d6_147 : decode prog_118_method_8_code 147 = .ok (.putfield 31, 3) := by decide +kernel
theorem d6_150 : decode prog_118_method_8_code 150 = .ok (.return_, 1) := by decide +kernel
theorem ef_6 (m : MethodId) (a : Addr) : entryFrame m #[(.ref a)] 1 = (mkF m 0 #[.val (.ref a)] []) := by first | (simp [entryFrame, mkF, argsToLocals, Value.category, maxLocals]; done) | rfl
def F6_150 (g_key0 : Int64) (g_key1 : Int64) (g_v0 : Int64) (g_v1 : Int64) (g_v2 : Int64) (g_v3 : Int64) (g_word : Int64) (g_length : Int32) : Int64 × Int64 × Int64 × Int64 := (g_v0, g_v1, g_v2, g_v3)
def F6_137 (g_key0 : Int64) (g_key1 : Int64) (g_v0 : Int64) (g_v1 : Int64) (g_v2 : Int64) (g_v3 : Int64) (g_word : Int64) (g_length : Int32) : Int64 × Int64 × Int64 × Int64 := (F6_150 g_key0 g_key1 g_v0 g_v1 (F7_0 g_v2 (32 : Int32)) g_v3 g_word g_length)
def F6_119 (g_key0 : Int64) (g_key1 : Int64) (g_v0 : Int64) (g_v1 : Int64) (g_v2 : Int64) (g_v3 : Int64) (g_word : Int64) (g_length : Int32) : Int64 × Int64 × Int64 × Int64 := (F6_137 g_key0 g_key1 g_v0 ((F7_0 g_v1 (17 : Int32)) ^^^ g_v2) g_v2 g_v3 g_word g_length)
def F6_106 (g_key0 : Int64) (g_key1 : Int64) (g_v0 : Int64) (g_v1 : Int64) (g_v2 : Int64) (g_v3 : Int64) (g_word : Int64) (g_length : Int32) : Int64 × Int64 × Int64 × Int64 := (F6_119 g_key0 g_key1 g_v0 g_v1 (g_v2 + g_v1) g_v3 g_word g_length)
def F6_88 (g_key0 : Int64) (g_key1 : Int64) (g_v0 : Int64) (g_v1 : Int64) (g_v2 : Int64) (g_v3 : Int64) (g_word : Int64) (g_length : Int32) : Int64 × Int64 × Int64 × Int64 := (F6_106 g_key0 g_key1 g_v0 g_v1 g_v2 ((F7_0 g_v3 (21 : Int32)) ^^^ g_v0) g_word g_length)
def F6_75 (g_key0 : Int64) (g_key1 : Int64) (g_v0 : Int64) (g_v1 : Int64) (g_v2 : Int64) (g_v3 : Int64) (g_word : Int64) (g_length : Int32) : Int64 × Int64 × Int64 × Int64 := (F6_88 g_key0 g_key1 (g_v0 + g_v3) g_v1 g_v2 g_v3 g_word g_length)
def F6_57 (g_key0 : Int64) (g_key1 : Int64) (g_v0 : Int64) (g_v1 : Int64) (g_v2 : Int64) (g_v3 : Int64) (g_word : Int64) (g_length : Int32) : Int64 × Int64 × Int64 × Int64 := (F6_75 g_key0 g_key1 g_v0 g_v1 g_v2 ((F7_0 g_v3 (16 : Int32)) ^^^ g_v2) g_word g_length)
def F6_44 (g_key0 : Int64) (g_key1 : Int64) (g_v0 : Int64) (g_v1 : Int64) (g_v2 : Int64) (g_v3 : Int64) (g_word : Int64) (g_length : Int32) : Int64 × Int64 × Int64 × Int64 := (F6_57 g_key0 g_key1 g_v0 g_v1 (g_v2 + g_v3) g_v3 g_word g_length)
def F6_31 (g_key0 : Int64) (g_key1 : Int64) (g_v0 : Int64) (g_v1 : Int64) (g_v2 : Int64) (g_v3 : Int64) (g_word : Int64) (g_length : Int32) : Int64 × Int64 × Int64 × Int64 := (F6_44 g_key0 g_key1 (F7_0 g_v0 (32 : Int32)) g_v1 g_v2 g_v3 g_word g_length)
def F6_13 (g_key0 : Int64) (g_key1 : Int64) (g_v0 : Int64) (g_v1 : Int64) (g_v2 : Int64) (g_v3 : Int64) (g_word : Int64) (g_length : Int32) : Int64 × Int64 × Int64 × Int64 := (F6_31 g_key0 g_key1 g_v0 ((F7_0 g_v1 (13 : Int32)) ^^^ g_v0) g_v2 g_v3 g_word g_length)
def F6_0 (g_key0 : Int64) (g_key1 : Int64) (g_v0 : Int64) (g_v1 : Int64) (g_v2 : Int64) (g_v3 : Int64) (g_word : Int64) (g_length : Int32) : Int64 × Int64 × Int64 × Int64 := (F6_13 g_key0 g_key1 (g_v0 + g_v1) g_v1 g_v2 g_v3 g_word g_length)
set_option maxRecDepth 65536 in
set_option maxHeartbeats 40000000 in
theorem rm6 (l : Launch) (Z : State) (a0 : Array Value) (hw : ∀ d ∈ tables_1, d.before a0 Z = true) (a : Addr) (g_key0 : Int64) (g_key1 : Int64) (g_v0 : Int64) (g_v1 : Int64) (g_v2 : Int64) (g_v3 : Int64) (g_word : Int64) (g_length : Int32) (h0 : Heap) (n0 : Nat) (I : own_I Z n0 h0 a g_key0 g_key1 g_v0 g_v1 g_v2 g_v3 g_word g_length) :
    own_M l Z (⟨"com/example/tomekeeper/tomekeeper/tome/SipHash", "round", "()V"⟩ : MethodName) prog_118_method_8_code 1 none ({ frames := 1, cells := 0, slots := 0, locals := 22 } : Room) #[(.ref a)] h0 (fun v h L => v = none ∧ Fr n0 L ∧ own_I Z n0 h a g_key0 g_key1 (F6_0 g_key0 g_key1 g_v0 g_v1 g_v2 g_v3 g_word g_length).1 (F6_0 g_key0 g_key1 g_v0 g_v1 g_v2 g_v3 g_word g_length).2.1 (F6_0 g_key0 g_key1 g_v0 g_v1 g_v2 g_v3 g_word g_length).2.2.1 (F6_0 g_key0 g_key1 g_v0 g_v1 g_v2 g_v3 g_word g_length).2.2.2 g_word g_length) := by
  refine own_body pn_3 ?_
  intro p e s m below meth c T hx hby hml hown hZ hret hlk hnm X eT
  have N := Fr.nil n0
  replace I : own_I Z n0 T.heap a g_key0 g_key1 g_v0 g_v1 g_v2 g_v3 g_word g_length := by rw [eT]; exact I
  obtain ⟨w, hF⟩ : ∃ w, w = F6_0 g_key0 g_key1 g_v0 g_v1 g_v2 g_v3 g_word g_length := ⟨_, rfl⟩
  try rw [← hF]
  generalize hQ : own_Q s (fun v h L => v = none ∧ Fr n0 L ∧ own_I Z n0 h a g_key0 g_key1 w.1 w.2.1 w.2.2.1 w.2.2.2 g_word g_length) ({ frames := 1, cells := 0, slots := 0, locals := 22 } : Room).cells ({ frames := 1, cells := 0, slots := 0, locals := 22 } : Room).slots = Qq
  refine own_st (fun _ k => castTop (ef_6 m a) k) ?_
  clear eT
  have B150 : ∀ (T : State) (L : List Loc) (g_v0 : Int64) (g_v1 : Int64) (g_v2 : Int64) (g_v3 : Int64), Stand p l e ({ frames := 1, cells := 0, slots := 0, locals := 22 } : Room) s m #[(.ref a)] below meth c T L 0 0 → own_I Z n0 T.heap a g_key0 g_key1 g_v0 g_v1 g_v2 g_v3 g_word g_length → Fr n0 L → w = F6_150 g_key0 g_key1 g_v0 g_v1 g_v2 g_v3 g_word g_length → own_E p e below Qq T (mkF m 150 #[.val (.ref a)] []) := by
    intro T L g_v0 g_v1 g_v2 g_v3 X I N hF
    rw [← hQ]
    exact own_retV X hx hlk hret (hb hby d6_150) (by decide) (by decide) ⟨rfl, N, (by first | (rw [hF]; exact I) | exact I)⟩
  have B137 : ∀ (T : State) (L : List Loc) (g_v0 : Int64) (g_v1 : Int64) (g_v2 : Int64) (g_v3 : Int64), Stand p l e ({ frames := 1, cells := 0, slots := 0, locals := 22 } : Room) s m #[(.ref a)] below meth c T L 0 0 → own_I Z n0 T.heap a g_key0 g_key1 g_v0 g_v1 g_v2 g_v3 g_word g_length → Fr n0 L → w = F6_137 g_key0 g_key1 g_v0 g_v1 g_v2 g_v3 g_word g_length → own_E p e below Qq T (mkF m 137 #[.val (.ref a)] []) := by
    intro T L g_v0 g_v1 g_v2 g_v3 X I N hF
    refine own_st (fun _ => XS.aloadN X.here hx rfl (hb hby d6_137) rfl rfl) ?_
    show own_E p e below Qq T (mkF m 138 #[.val (.ref a)] [(.ref a)])
    refine own_st (fun _ => XS.aloadN X.here hx rfl (hb hby d6_138) rfl rfl) ?_
    show own_E p e below Qq T (mkF m 139 #[.val (.ref a)] [(.ref a), (.ref a)])
    obtain ⟨T1, X1, e1, st1⟩ := getF X hx hZ hown (host := "") (Or.inl (hw _ (List.mem_of_getElem? (i := 25) rfl))) Via.refl rfl (own_Ig_v2 I) (g := (mkF m 139 #[.val (.ref a)] [(.ref a), (.ref a)])) rfl rfl (hb hby d6_139)
    refine own_st st1 ?_
    replace I := own_tr (P := fun h => own_I Z n0 h a g_key0 g_key1 g_v0 g_v1 g_v2 g_v3 g_word g_length) e1 I
    replace X := X1
    clear st1 e1 X1
    show own_E p e below Qq T1 (mkF m 142 #[.val (.ref a)] [(.long g_v2), (.ref a)])
    refine own_st (fun _ => XS.bipush X.here hx rfl (hb hby d6_142)) ?_
    show own_E p e below Qq T1 (mkF m 144 #[.val (.ref a)] [(.int (32 : Int32)), (.long g_v2), (.ref a)])
    refine own_callS X hx hZ hown (hw _ (List.mem_of_getElem? (i := 48) rfl)) (hw _ (List.mem_of_getElem? (i := 49) rfl)) (hw _ (List.mem_of_getElem? (i := 50) rfl)) (hw _ (List.mem_of_getElem? (i := 51) rfl)) (by decide) (W := 1) (argsL := [(.long g_v2), (.int (32 : Int32))]) (rest := [(.ref a)]) (rm7 l Z a0 hw g_v2 (32 : Int32) _ n0) (by decide) (by decide) (by decide) (by decide) rfl (by rw [hml]; rfl) (lenOf pd_7 rfl) rfl (by show 2 * 0 + _ ≤ _; exact Nat.le_of_eq rfl) (hb hby d6_144) ?_
    intro T2 L2 v X' hq
    obtain ⟨rfl, N', e'⟩ := hq
    replace I := own_tr (P := fun h => own_I Z n0 h a g_key0 g_key1 g_v0 g_v1 g_v2 g_v3 g_word g_length) e' I
    replace N := Fr.app N N'
    replace X : Stand p l e ({ frames := 1, cells := 0, slots := 0, locals := 22 } : Room) s m #[(.ref a)] below meth c T2 _ 0 0 := X'
    clear X' N' e'
    show own_E p e below Qq T2 (mkF m 147 #[.val (.ref a)] [(.long (F7_0 g_v2 (32 : Int32))), (.ref a)])
    obtain ⟨T3, h3, X3, e3, W3, st3⟩ := putF X hx hZ hown (host := "") (Or.inl (hw _ (List.mem_of_getElem? (i := 25) rfl))) Via.refl rfl (own_Ig_v2 I) (own_Iex I) (Or.inl (hw _ (List.mem_of_getElem? (i := 26) rfl))) (hw _ (List.mem_of_getElem? (i := 1) rfl)) (ty := .long) (by decide) rfl rfl (g := (mkF m 147 #[.val (.ref a)] [(.long (F7_0 g_v2 (32 : Int32))), (.ref a)])) rfl rfl (hb hby d6_147)
    subst e3
    refine own_st st3 ?_
    replace N := Fr.snoc X3 N (own_Ina I)
    replace I := own_Is_v2 hw W3 I
    replace X := X3
    clear st3 X3
    show own_E p e below Qq T3 (mkF m 150 #[.val (.ref a)] [])
    exact B150 _ _ g_v0 g_v1 (F7_0 g_v2 (32 : Int32)) g_v3 X I N hF
  have B119 : ∀ (T : State) (L : List Loc) (g_v0 : Int64) (g_v1 : Int64) (g_v2 : Int64) (g_v3 : Int64), Stand p l e ({ frames := 1, cells := 0, slots := 0, locals := 22 } : Room) s m #[(.ref a)] below meth c T L 0 0 → own_I Z n0 T.heap a g_key0 g_key1 g_v0 g_v1 g_v2 g_v3 g_word g_length → Fr n0 L → w = F6_119 g_key0 g_key1 g_v0 g_v1 g_v2 g_v3 g_word g_length → own_E p e below Qq T (mkF m 119 #[.val (.ref a)] []) := by
    intro T L g_v0 g_v1 g_v2 g_v3 X I N hF
    refine own_st (fun _ => XS.aloadN X.here hx rfl (hb hby d6_119) rfl rfl) ?_
    show own_E p e below Qq T (mkF m 120 #[.val (.ref a)] [(.ref a)])
    refine own_st (fun _ => XS.aloadN X.here hx rfl (hb hby d6_120) rfl rfl) ?_
    show own_E p e below Qq T (mkF m 121 #[.val (.ref a)] [(.ref a), (.ref a)])
    obtain ⟨T4, X4, e4, st4⟩ := getF X hx hZ hown (host := "") (Or.inl (hw _ (List.mem_of_getElem? (i := 22) rfl))) Via.refl rfl (own_Ig_v1 I) (g := (mkF m 121 #[.val (.ref a)] [(.ref a), (.ref a)])) rfl rfl (hb hby d6_121)
    refine own_st st4 ?_
    replace I := own_tr (P := fun h => own_I Z n0 h a g_key0 g_key1 g_v0 g_v1 g_v2 g_v3 g_word g_length) e4 I
    replace X := X4
    clear st4 e4 X4
    show own_E p e below Qq T4 (mkF m 124 #[.val (.ref a)] [(.long g_v1), (.ref a)])
    refine own_st (fun _ => XS.bipush X.here hx rfl (hb hby d6_124)) ?_
    show own_E p e below Qq T4 (mkF m 126 #[.val (.ref a)] [(.int (17 : Int32)), (.long g_v1), (.ref a)])
    refine own_callS X hx hZ hown (hw _ (List.mem_of_getElem? (i := 48) rfl)) (hw _ (List.mem_of_getElem? (i := 49) rfl)) (hw _ (List.mem_of_getElem? (i := 50) rfl)) (hw _ (List.mem_of_getElem? (i := 51) rfl)) (by decide) (W := 1) (argsL := [(.long g_v1), (.int (17 : Int32))]) (rest := [(.ref a)]) (rm7 l Z a0 hw g_v1 (17 : Int32) _ n0) (by decide) (by decide) (by decide) (by decide) rfl (by rw [hml]; rfl) (lenOf pd_7 rfl) rfl (by show 2 * 0 + _ ≤ _; exact Nat.le_of_eq rfl) (hb hby d6_126) ?_
    intro T5 L5 v X' hq
    obtain ⟨rfl, N', e'⟩ := hq
    replace I := own_tr (P := fun h => own_I Z n0 h a g_key0 g_key1 g_v0 g_v1 g_v2 g_v3 g_word g_length) e' I
    replace N := Fr.app N N'
    replace X : Stand p l e ({ frames := 1, cells := 0, slots := 0, locals := 22 } : Room) s m #[(.ref a)] below meth c T5 _ 0 0 := X'
    clear X' N' e'
    show own_E p e below Qq T5 (mkF m 129 #[.val (.ref a)] [(.long (F7_0 g_v1 (17 : Int32))), (.ref a)])
    refine own_st (fun _ => XS.aloadN X.here hx rfl (hb hby d6_129) rfl rfl) ?_
    show own_E p e below Qq T5 (mkF m 130 #[.val (.ref a)] [(.ref a), (.long (F7_0 g_v1 (17 : Int32))), (.ref a)])
    obtain ⟨T6, X6, e6, st6⟩ := getF X hx hZ hown (host := "") (Or.inl (hw _ (List.mem_of_getElem? (i := 25) rfl))) Via.refl rfl (own_Ig_v2 I) (g := (mkF m 130 #[.val (.ref a)] [(.ref a), (.long (F7_0 g_v1 (17 : Int32))), (.ref a)])) rfl rfl (hb hby d6_130)
    refine own_st st6 ?_
    replace I := own_tr (P := fun h => own_I Z n0 h a g_key0 g_key1 g_v0 g_v1 g_v2 g_v3 g_word g_length) e6 I
    replace X := X6
    clear st6 e6 X6
    show own_E p e below Qq T6 (mkF m 133 #[.val (.ref a)] [(.long g_v2), (.long (F7_0 g_v1 (17 : Int32))), (.ref a)])
    refine own_st (fun _ => XT.lxor X.here hx rfl (hb hby d6_133) rfl) ?_
    show own_E p e below Qq T6 (mkF m 134 #[.val (.ref a)] [(.long ((F7_0 g_v1 (17 : Int32)) ^^^ g_v2)), (.ref a)])
    obtain ⟨T7, h7, X7, e7, W7, st7⟩ := putF X hx hZ hown (host := "") (Or.inl (hw _ (List.mem_of_getElem? (i := 22) rfl))) Via.refl rfl (own_Ig_v1 I) (own_Iex I) (Or.inl (hw _ (List.mem_of_getElem? (i := 23) rfl))) (hw _ (List.mem_of_getElem? (i := 1) rfl)) (ty := .long) (by decide) rfl rfl (g := (mkF m 134 #[.val (.ref a)] [(.long ((F7_0 g_v1 (17 : Int32)) ^^^ g_v2)), (.ref a)])) rfl rfl (hb hby d6_134)
    subst e7
    refine own_st st7 ?_
    replace N := Fr.snoc X7 N (own_Ina I)
    replace I := own_Is_v1 hw W7 I
    replace X := X7
    clear st7 X7
    show own_E p e below Qq T7 (mkF m 137 #[.val (.ref a)] [])
    exact B137 _ _ g_v0 ((F7_0 g_v1 (17 : Int32)) ^^^ g_v2) g_v2 g_v3 X I N hF
  have B106 : ∀ (T : State) (L : List Loc) (g_v0 : Int64) (g_v1 : Int64) (g_v2 : Int64) (g_v3 : Int64), Stand p l e ({ frames := 1, cells := 0, slots := 0, locals := 22 } : Room) s m #[(.ref a)] below meth c T L 0 0 → own_I Z n0 T.heap a g_key0 g_key1 g_v0 g_v1 g_v2 g_v3 g_word g_length → Fr n0 L → w = F6_106 g_key0 g_key1 g_v0 g_v1 g_v2 g_v3 g_word g_length → own_E p e below Qq T (mkF m 106 #[.val (.ref a)] []) := by
    intro T L g_v0 g_v1 g_v2 g_v3 X I N hF
    refine own_st (fun _ => XS.aloadN X.here hx rfl (hb hby d6_106) rfl rfl) ?_
    show own_E p e below Qq T (mkF m 107 #[.val (.ref a)] [(.ref a)])
    refine own_st (fun _ => XS.dup X.here hx rfl (hb hby d6_107) rfl rfl) ?_
    show own_E p e below Qq T (mkF m 108 #[.val (.ref a)] [(.ref a), (.ref a)])
    obtain ⟨T8, X8, e8, st8⟩ := getF X hx hZ hown (host := "") (Or.inl (hw _ (List.mem_of_getElem? (i := 25) rfl))) Via.refl rfl (own_Ig_v2 I) (g := (mkF m 108 #[.val (.ref a)] [(.ref a), (.ref a)])) rfl rfl (hb hby d6_108)
    refine own_st st8 ?_
    replace I := own_tr (P := fun h => own_I Z n0 h a g_key0 g_key1 g_v0 g_v1 g_v2 g_v3 g_word g_length) e8 I
    replace X := X8
    clear st8 e8 X8
    show own_E p e below Qq T8 (mkF m 111 #[.val (.ref a)] [(.long g_v2), (.ref a)])
    refine own_st (fun _ => XS.aloadN X.here hx rfl (hb hby d6_111) rfl rfl) ?_
    show own_E p e below Qq T8 (mkF m 112 #[.val (.ref a)] [(.ref a), (.long g_v2), (.ref a)])
    obtain ⟨T9, X9, e9, st9⟩ := getF X hx hZ hown (host := "") (Or.inl (hw _ (List.mem_of_getElem? (i := 22) rfl))) Via.refl rfl (own_Ig_v1 I) (g := (mkF m 112 #[.val (.ref a)] [(.ref a), (.long g_v2), (.ref a)])) rfl rfl (hb hby d6_112)
    refine own_st st9 ?_
    replace I := own_tr (P := fun h => own_I Z n0 h a g_key0 g_key1 g_v0 g_v1 g_v2 g_v3 g_word g_length) e9 I
    replace X := X9
    clear st9 e9 X9
    show own_E p e below Qq T9 (mkF m 115 #[.val (.ref a)] [(.long g_v1), (.long g_v2), (.ref a)])
    refine own_st (fun _ => XT.ladd X.here hx rfl (hb hby d6_115) rfl) ?_
    show own_E p e below Qq T9 (mkF m 116 #[.val (.ref a)] [(.long (g_v2 + g_v1)), (.ref a)])
    obtain ⟨T10, h10, X10, e10, W10, st10⟩ := putF X hx hZ hown (host := "") (Or.inl (hw _ (List.mem_of_getElem? (i := 25) rfl))) Via.refl rfl (own_Ig_v2 I) (own_Iex I) (Or.inl (hw _ (List.mem_of_getElem? (i := 26) rfl))) (hw _ (List.mem_of_getElem? (i := 1) rfl)) (ty := .long) (by decide) rfl rfl (g := (mkF m 116 #[.val (.ref a)] [(.long (g_v2 + g_v1)), (.ref a)])) rfl rfl (hb hby d6_116)
    subst e10
    refine own_st st10 ?_
    replace N := Fr.snoc X10 N (own_Ina I)
    replace I := own_Is_v2 hw W10 I
    replace X := X10
    clear st10 X10
    show own_E p e below Qq T10 (mkF m 119 #[.val (.ref a)] [])
    exact B119 _ _ g_v0 g_v1 (g_v2 + g_v1) g_v3 X I N hF
  have B88 : ∀ (T : State) (L : List Loc) (g_v0 : Int64) (g_v1 : Int64) (g_v2 : Int64) (g_v3 : Int64), Stand p l e ({ frames := 1, cells := 0, slots := 0, locals := 22 } : Room) s m #[(.ref a)] below meth c T L 0 0 → own_I Z n0 T.heap a g_key0 g_key1 g_v0 g_v1 g_v2 g_v3 g_word g_length → Fr n0 L → w = F6_88 g_key0 g_key1 g_v0 g_v1 g_v2 g_v3 g_word g_length → own_E p e below Qq T (mkF m 88 #[.val (.ref a)] []) := by
    intro T L g_v0 g_v1 g_v2 g_v3 X I N hF
    refine own_st (fun _ => XS.aloadN X.here hx rfl (hb hby d6_88) rfl rfl) ?_
    show own_E p e below Qq T (mkF m 89 #[.val (.ref a)] [(.ref a)])
    refine own_st (fun _ => XS.aloadN X.here hx rfl (hb hby d6_89) rfl rfl) ?_
    show own_E p e below Qq T (mkF m 90 #[.val (.ref a)] [(.ref a), (.ref a)])
    obtain ⟨T11, X11, e11, st11⟩ := getF X hx hZ hown (host := "") (Or.inl (hw _ (List.mem_of_getElem? (i := 28) rfl))) Via.refl rfl (own_Ig_v3 I) (g := (mkF m 90 #[.val (.ref a)] [(.ref a), (.ref a)])) rfl rfl (hb hby d6_90)
    refine own_st st11 ?_
    replace I := own_tr (P := fun h => own_I Z n0 h a g_key0 g_key1 g_v0 g_v1 g_v2 g_v3 g_word g_length) e11 I
    replace X := X11
    clear st11 e11 X11
    show own_E p e below Qq T11 (mkF m 93 #[.val (.ref a)] [(.long g_v3), (.ref a)])
    refine own_st (fun _ => XS.bipush X.here hx rfl (hb hby d6_93)) ?_
    show own_E p e below Qq T11 (mkF m 95 #[.val (.ref a)] [(.int (21 : Int32)), (.long g_v3), (.ref a)])
    refine own_callS X hx hZ hown (hw _ (List.mem_of_getElem? (i := 48) rfl)) (hw _ (List.mem_of_getElem? (i := 49) rfl)) (hw _ (List.mem_of_getElem? (i := 50) rfl)) (hw _ (List.mem_of_getElem? (i := 51) rfl)) (by decide) (W := 1) (argsL := [(.long g_v3), (.int (21 : Int32))]) (rest := [(.ref a)]) (rm7 l Z a0 hw g_v3 (21 : Int32) _ n0) (by decide) (by decide) (by decide) (by decide) rfl (by rw [hml]; rfl) (lenOf pd_7 rfl) rfl (by show 2 * 0 + _ ≤ _; exact Nat.le_of_eq rfl) (hb hby d6_95) ?_
    intro T12 L12 v X' hq
    obtain ⟨rfl, N', e'⟩ := hq
    replace I := own_tr (P := fun h => own_I Z n0 h a g_key0 g_key1 g_v0 g_v1 g_v2 g_v3 g_word g_length) e' I
    replace N := Fr.app N N'
    replace X : Stand p l e ({ frames := 1, cells := 0, slots := 0, locals := 22 } : Room) s m #[(.ref a)] below meth c T12 _ 0 0 := X'
    clear X' N' e'
    show own_E p e below Qq T12 (mkF m 98 #[.val (.ref a)] [(.long (F7_0 g_v3 (21 : Int32))), (.ref a)])
    refine own_st (fun _ => XS.aloadN X.here hx rfl (hb hby d6_98) rfl rfl) ?_
    show own_E p e below Qq T12 (mkF m 99 #[.val (.ref a)] [(.ref a), (.long (F7_0 g_v3 (21 : Int32))), (.ref a)])
    obtain ⟨T13, X13, e13, st13⟩ := getF X hx hZ hown (host := "") (Or.inl (hw _ (List.mem_of_getElem? (i := 19) rfl))) Via.refl rfl (own_Ig_v0 I) (g := (mkF m 99 #[.val (.ref a)] [(.ref a), (.long (F7_0 g_v3 (21 : Int32))), (.ref a)])) rfl rfl (hb hby d6_99)
    refine own_st st13 ?_
    replace I := own_tr (P := fun h => own_I Z n0 h a g_key0 g_key1 g_v0 g_v1 g_v2 g_v3 g_word g_length) e13 I
    replace X := X13
    clear st13 e13 X13
    show own_E p e below Qq T13 (mkF m 102 #[.val (.ref a)] [(.long g_v0), (.long (F7_0 g_v3 (21 : Int32))), (.ref a)])
    refine own_st (fun _ => XT.lxor X.here hx rfl (hb hby d6_102) rfl) ?_
    show own_E p e below Qq T13 (mkF m 103 #[.val (.ref a)] [(.long ((F7_0 g_v3 (21 : Int32)) ^^^ g_v0)), (.ref a)])
    obtain ⟨T14, h14, X14, e14, W14, st14⟩ := putF X hx hZ hown (host := "") (Or.inl (hw _ (List.mem_of_getElem? (i := 28) rfl))) Via.refl rfl (own_Ig_v3 I) (own_Iex I) (Or.inl (hw _ (List.mem_of_getElem? (i := 29) rfl))) (hw _ (List.mem_of_getElem? (i := 1) rfl)) (ty := .long) (by decide) rfl rfl (g := (mkF m 103 #[.val (.ref a)] [(.long ((F7_0 g_v3 (21 : Int32)) ^^^ g_v0)), (.ref a)])) rfl rfl (hb hby d6_103)
    subst e14
    refine own_st st14 ?_
    replace N := Fr.snoc X14 N (own_Ina I)
    replace I := own_Is_v3 hw W14 I
    replace X := X14
    clear st14 X14
    show own_E p e below Qq T14 (mkF m 106 #[.val (.ref a)] [])
    exact B106 _ _ g_v0 g_v1 g_v2 ((F7_0 g_v3 (21 : Int32)) ^^^ g_v0) X I N hF
  have B75 : ∀ (T : State) (L : List Loc) (g_v0 : Int64) (g_v1 : Int64) (g_v2 : Int64) (g_v3 : Int64), Stand p l e ({ frames := 1, cells := 0, slots := 0, locals := 22 } : Room) s m #[(.ref a)] below meth c T L 0 0 → own_I Z n0 T.heap a g_key0 g_key1 g_v0 g_v1 g_v2 g_v3 g_word g_length → Fr n0 L → w = F6_75 g_key0 g_key1 g_v0 g_v1 g_v2 g_v3 g_word g_length → own_E p e below Qq T (mkF m 75 #[.val (.ref a)] []) := by
    intro T L g_v0 g_v1 g_v2 g_v3 X I N hF
    refine own_st (fun _ => XS.aloadN X.here hx rfl (hb hby d6_75) rfl rfl) ?_
    show own_E p e below Qq T (mkF m 76 #[.val (.ref a)] [(.ref a)])
    refine own_st (fun _ => XS.dup X.here hx rfl (hb hby d6_76) rfl rfl) ?_
    show own_E p e below Qq T (mkF m 77 #[.val (.ref a)] [(.ref a), (.ref a)])
    obtain ⟨T15, X15, e15, st15⟩ := getF X hx hZ hown (host := "") (Or.inl (hw _ (List.mem_of_getElem? (i := 19) rfl))) Via.refl rfl (own_Ig_v0 I) (g := (mkF m 77 #[.val (.ref a)] [(.ref a), (.ref a)])) rfl rfl (hb hby d6_77)
    refine own_st st15 ?_
    replace I := own_tr (P := fun h => own_I Z n0 h a g_key0 g_key1 g_v0 g_v1 g_v2 g_v3 g_word g_length) e15 I
    replace X := X15
    clear st15 e15 X15
    show own_E p e below Qq T15 (mkF m 80 #[.val (.ref a)] [(.long g_v0), (.ref a)])
    refine own_st (fun _ => XS.aloadN X.here hx rfl (hb hby d6_80) rfl rfl) ?_
    show own_E p e below Qq T15 (mkF m 81 #[.val (.ref a)] [(.ref a), (.long g_v0), (.ref a)])
    obtain ⟨T16, X16, e16, st16⟩ := getF X hx hZ hown (host := "") (Or.inl (hw _ (List.mem_of_getElem? (i := 28) rfl))) Via.refl rfl (own_Ig_v3 I) (g := (mkF m 81 #[.val (.ref a)] [(.ref a), (.long g_v0), (.ref a)])) rfl rfl (hb hby d6_81)
    refine own_st st16 ?_
    replace I := own_tr (P := fun h => own_I Z n0 h a g_key0 g_key1 g_v0 g_v1 g_v2 g_v3 g_word g_length) e16 I
    replace X := X16
    clear st16 e16 X16
    show own_E p e below Qq T16 (mkF m 84 #[.val (.ref a)] [(.long g_v3), (.long g_v0), (.ref a)])
    refine own_st (fun _ => XT.ladd X.here hx rfl (hb hby d6_84) rfl) ?_
    show own_E p e below Qq T16 (mkF m 85 #[.val (.ref a)] [(.long (g_v0 + g_v3)), (.ref a)])
    obtain ⟨T17, h17, X17, e17, W17, st17⟩ := putF X hx hZ hown (host := "") (Or.inl (hw _ (List.mem_of_getElem? (i := 19) rfl))) Via.refl rfl (own_Ig_v0 I) (own_Iex I) (Or.inl (hw _ (List.mem_of_getElem? (i := 20) rfl))) (hw _ (List.mem_of_getElem? (i := 1) rfl)) (ty := .long) (by decide) rfl rfl (g := (mkF m 85 #[.val (.ref a)] [(.long (g_v0 + g_v3)), (.ref a)])) rfl rfl (hb hby d6_85)
    subst e17
    refine own_st st17 ?_
    replace N := Fr.snoc X17 N (own_Ina I)
    replace I := own_Is_v0 hw W17 I
    replace X := X17
    clear st17 X17
    show own_E p e below Qq T17 (mkF m 88 #[.val (.ref a)] [])
    exact B88 _ _ (g_v0 + g_v3) g_v1 g_v2 g_v3 X I N hF
  have B57 : ∀ (T : State) (L : List Loc) (g_v0 : Int64) (g_v1 : Int64) (g_v2 : Int64) (g_v3 : Int64), Stand p l e ({ frames := 1, cells := 0, slots := 0, locals := 22 } : Room) s m #[(.ref a)] below meth c T L 0 0 → own_I Z n0 T.heap a g_key0 g_key1 g_v0 g_v1 g_v2 g_v3 g_word g_length → Fr n0 L → w = F6_57 g_key0 g_key1 g_v0 g_v1 g_v2 g_v3 g_word g_length → own_E p e below Qq T (mkF m 57 #[.val (.ref a)] []) := by
    intro T L g_v0 g_v1 g_v2 g_v3 X I N hF
    refine own_st (fun _ => XS.aloadN X.here hx rfl (hb hby d6_57) rfl rfl) ?_
    show own_E p e below Qq T (mkF m 58 #[.val (.ref a)] [(.ref a)])
    refine own_st (fun _ => XS.aloadN X.here hx rfl (hb hby d6_58) rfl rfl) ?_
    show own_E p e below Qq T (mkF m 59 #[.val (.ref a)] [(.ref a), (.ref a)])
    obtain ⟨T18, X18, e18, st18⟩ := getF X hx hZ hown (host := "") (Or.inl (hw _ (List.mem_of_getElem? (i := 28) rfl))) Via.refl rfl (own_Ig_v3 I) (g := (mkF m 59 #[.val (.ref a)] [(.ref a), (.ref a)])) rfl rfl (hb hby d6_59)
    refine own_st st18 ?_
    replace I := own_tr (P := fun h => own_I Z n0 h a g_key0 g_key1 g_v0 g_v1 g_v2 g_v3 g_word g_length) e18 I
    replace X := X18
    clear st18 e18 X18
    show own_E p e below Qq T18 (mkF m 62 #[.val (.ref a)] [(.long g_v3), (.ref a)])
    refine own_st (fun _ => XS.bipush X.here hx rfl (hb hby d6_62)) ?_
    show own_E p e below Qq T18 (mkF m 64 #[.val (.ref a)] [(.int (16 : Int32)), (.long g_v3), (.ref a)])
    refine own_callS X hx hZ hown (hw _ (List.mem_of_getElem? (i := 48) rfl)) (hw _ (List.mem_of_getElem? (i := 49) rfl)) (hw _ (List.mem_of_getElem? (i := 50) rfl)) (hw _ (List.mem_of_getElem? (i := 51) rfl)) (by decide) (W := 1) (argsL := [(.long g_v3), (.int (16 : Int32))]) (rest := [(.ref a)]) (rm7 l Z a0 hw g_v3 (16 : Int32) _ n0) (by decide) (by decide) (by decide) (by decide) rfl (by rw [hml]; rfl) (lenOf pd_7 rfl) rfl (by show 2 * 0 + _ ≤ _; exact Nat.le_of_eq rfl) (hb hby d6_64) ?_
    intro T19 L19 v X' hq
    obtain ⟨rfl, N', e'⟩ := hq
    replace I := own_tr (P := fun h => own_I Z n0 h a g_key0 g_key1 g_v0 g_v1 g_v2 g_v3 g_word g_length) e' I
    replace N := Fr.app N N'
    replace X : Stand p l e ({ frames := 1, cells := 0, slots := 0, locals := 22 } : Room) s m #[(.ref a)] below meth c T19 _ 0 0 := X'
    clear X' N' e'
    show own_E p e below Qq T19 (mkF m 67 #[.val (.ref a)] [(.long (F7_0 g_v3 (16 : Int32))), (.ref a)])
    refine own_st (fun _ => XS.aloadN X.here hx rfl (hb hby d6_67) rfl rfl) ?_
    show own_E p e below Qq T19 (mkF m 68 #[.val (.ref a)] [(.ref a), (.long (F7_0 g_v3 (16 : Int32))), (.ref a)])
    obtain ⟨T20, X20, e20, st20⟩ := getF X hx hZ hown (host := "") (Or.inl (hw _ (List.mem_of_getElem? (i := 25) rfl))) Via.refl rfl (own_Ig_v2 I) (g := (mkF m 68 #[.val (.ref a)] [(.ref a), (.long (F7_0 g_v3 (16 : Int32))), (.ref a)])) rfl rfl (hb hby d6_68)
    refine own_st st20 ?_
    replace I := own_tr (P := fun h => own_I Z n0 h a g_key0 g_key1 g_v0 g_v1 g_v2 g_v3 g_word g_length) e20 I
    replace X := X20
    clear st20 e20 X20
    show own_E p e below Qq T20 (mkF m 71 #[.val (.ref a)] [(.long g_v2), (.long (F7_0 g_v3 (16 : Int32))), (.ref a)])
    refine own_st (fun _ => XT.lxor X.here hx rfl (hb hby d6_71) rfl) ?_
    show own_E p e below Qq T20 (mkF m 72 #[.val (.ref a)] [(.long ((F7_0 g_v3 (16 : Int32)) ^^^ g_v2)), (.ref a)])
    obtain ⟨T21, h21, X21, e21, W21, st21⟩ := putF X hx hZ hown (host := "") (Or.inl (hw _ (List.mem_of_getElem? (i := 28) rfl))) Via.refl rfl (own_Ig_v3 I) (own_Iex I) (Or.inl (hw _ (List.mem_of_getElem? (i := 29) rfl))) (hw _ (List.mem_of_getElem? (i := 1) rfl)) (ty := .long) (by decide) rfl rfl (g := (mkF m 72 #[.val (.ref a)] [(.long ((F7_0 g_v3 (16 : Int32)) ^^^ g_v2)), (.ref a)])) rfl rfl (hb hby d6_72)
    subst e21
    refine own_st st21 ?_
    replace N := Fr.snoc X21 N (own_Ina I)
    replace I := own_Is_v3 hw W21 I
    replace X := X21
    clear st21 X21
    show own_E p e below Qq T21 (mkF m 75 #[.val (.ref a)] [])
    exact B75 _ _ g_v0 g_v1 g_v2 ((F7_0 g_v3 (16 : Int32)) ^^^ g_v2) X I N hF
  have B44 : ∀ (T : State) (L : List Loc) (g_v0 : Int64) (g_v1 : Int64) (g_v2 : Int64) (g_v3 : Int64), Stand p l e ({ frames := 1, cells := 0, slots := 0, locals := 22 } : Room) s m #[(.ref a)] below meth c T L 0 0 → own_I Z n0 T.heap a g_key0 g_key1 g_v0 g_v1 g_v2 g_v3 g_word g_length → Fr n0 L → w = F6_44 g_key0 g_key1 g_v0 g_v1 g_v2 g_v3 g_word g_length → own_E p e below Qq T (mkF m 44 #[.val (.ref a)] []) := by
    intro T L g_v0 g_v1 g_v2 g_v3 X I N hF
    refine own_st (fun _ => XS.aloadN X.here hx rfl (hb hby d6_44) rfl rfl) ?_
    show own_E p e below Qq T (mkF m 45 #[.val (.ref a)] [(.ref a)])
    refine own_st (fun _ => XS.dup X.here hx rfl (hb hby d6_45) rfl rfl) ?_
    show own_E p e below Qq T (mkF m 46 #[.val (.ref a)] [(.ref a), (.ref a)])
    obtain ⟨T22, X22, e22, st22⟩ := getF X hx hZ hown (host := "") (Or.inl (hw _ (List.mem_of_getElem? (i := 25) rfl))) Via.refl rfl (own_Ig_v2 I) (g := (mkF m 46 #[.val (.ref a)] [(.ref a), (.ref a)])) rfl rfl (hb hby d6_46)
    refine own_st st22 ?_
    replace I := own_tr (P := fun h => own_I Z n0 h a g_key0 g_key1 g_v0 g_v1 g_v2 g_v3 g_word g_length) e22 I
    replace X := X22
    clear st22 e22 X22
    show own_E p e below Qq T22 (mkF m 49 #[.val (.ref a)] [(.long g_v2), (.ref a)])
    refine own_st (fun _ => XS.aloadN X.here hx rfl (hb hby d6_49) rfl rfl) ?_
    show own_E p e below Qq T22 (mkF m 50 #[.val (.ref a)] [(.ref a), (.long g_v2), (.ref a)])
    obtain ⟨T23, X23, e23, st23⟩ := getF X hx hZ hown (host := "") (Or.inl (hw _ (List.mem_of_getElem? (i := 28) rfl))) Via.refl rfl (own_Ig_v3 I) (g := (mkF m 50 #[.val (.ref a)] [(.ref a), (.long g_v2), (.ref a)])) rfl rfl (hb hby d6_50)
    refine own_st st23 ?_
    replace I := own_tr (P := fun h => own_I Z n0 h a g_key0 g_key1 g_v0 g_v1 g_v2 g_v3 g_word g_length) e23 I
    replace X := X23
    clear st23 e23 X23
    show own_E p e below Qq T23 (mkF m 53 #[.val (.ref a)] [(.long g_v3), (.long g_v2), (.ref a)])
    refine own_st (fun _ => XT.ladd X.here hx rfl (hb hby d6_53) rfl) ?_
    show own_E p e below Qq T23 (mkF m 54 #[.val (.ref a)] [(.long (g_v2 + g_v3)), (.ref a)])
    obtain ⟨T24, h24, X24, e24, W24, st24⟩ := putF X hx hZ hown (host := "") (Or.inl (hw _ (List.mem_of_getElem? (i := 25) rfl))) Via.refl rfl (own_Ig_v2 I) (own_Iex I) (Or.inl (hw _ (List.mem_of_getElem? (i := 26) rfl))) (hw _ (List.mem_of_getElem? (i := 1) rfl)) (ty := .long) (by decide) rfl rfl (g := (mkF m 54 #[.val (.ref a)] [(.long (g_v2 + g_v3)), (.ref a)])) rfl rfl (hb hby d6_54)
    subst e24
    refine own_st st24 ?_
    replace N := Fr.snoc X24 N (own_Ina I)
    replace I := own_Is_v2 hw W24 I
    replace X := X24
    clear st24 X24
    show own_E p e below Qq T24 (mkF m 57 #[.val (.ref a)] [])
    exact B57 _ _ g_v0 g_v1 (g_v2 + g_v3) g_v3 X I N hF
  have B31 : ∀ (T : State) (L : List Loc) (g_v0 : Int64) (g_v1 : Int64) (g_v2 : Int64) (g_v3 : Int64), Stand p l e ({ frames := 1, cells := 0, slots := 0, locals := 22 } : Room) s m #[(.ref a)] below meth c T L 0 0 → own_I Z n0 T.heap a g_key0 g_key1 g_v0 g_v1 g_v2 g_v3 g_word g_length → Fr n0 L → w = F6_31 g_key0 g_key1 g_v0 g_v1 g_v2 g_v3 g_word g_length → own_E p e below Qq T (mkF m 31 #[.val (.ref a)] []) := by
    intro T L g_v0 g_v1 g_v2 g_v3 X I N hF
    refine own_st (fun _ => XS.aloadN X.here hx rfl (hb hby d6_31) rfl rfl) ?_
    show own_E p e below Qq T (mkF m 32 #[.val (.ref a)] [(.ref a)])
    refine own_st (fun _ => XS.aloadN X.here hx rfl (hb hby d6_32) rfl rfl) ?_
    show own_E p e below Qq T (mkF m 33 #[.val (.ref a)] [(.ref a), (.ref a)])
    obtain ⟨T25, X25, e25, st25⟩ := getF X hx hZ hown (host := "") (Or.inl (hw _ (List.mem_of_getElem? (i := 19) rfl))) Via.refl rfl (own_Ig_v0 I) (g := (mkF m 33 #[.val (.ref a)] [(.ref a), (.ref a)])) rfl rfl (hb hby d6_33)
    refine own_st st25 ?_
    replace I := own_tr (P := fun h => own_I Z n0 h a g_key0 g_key1 g_v0 g_v1 g_v2 g_v3 g_word g_length) e25 I
    replace X := X25
    clear st25 e25 X25
    show own_E p e below Qq T25 (mkF m 36 #[.val (.ref a)] [(.long g_v0), (.ref a)])
    refine own_st (fun _ => XS.bipush X.here hx rfl (hb hby d6_36)) ?_
    show own_E p e below Qq T25 (mkF m 38 #[.val (.ref a)] [(.int (32 : Int32)), (.long g_v0), (.ref a)])
    refine own_callS X hx hZ hown (hw _ (List.mem_of_getElem? (i := 48) rfl)) (hw _ (List.mem_of_getElem? (i := 49) rfl)) (hw _ (List.mem_of_getElem? (i := 50) rfl)) (hw _ (List.mem_of_getElem? (i := 51) rfl)) (by decide) (W := 1) (argsL := [(.long g_v0), (.int (32 : Int32))]) (rest := [(.ref a)]) (rm7 l Z a0 hw g_v0 (32 : Int32) _ n0) (by decide) (by decide) (by decide) (by decide) rfl (by rw [hml]; rfl) (lenOf pd_7 rfl) rfl (by show 2 * 0 + _ ≤ _; exact Nat.le_of_eq rfl) (hb hby d6_38) ?_
    intro T26 L26 v X' hq
    obtain ⟨rfl, N', e'⟩ := hq
    replace I := own_tr (P := fun h => own_I Z n0 h a g_key0 g_key1 g_v0 g_v1 g_v2 g_v3 g_word g_length) e' I
    replace N := Fr.app N N'
    replace X : Stand p l e ({ frames := 1, cells := 0, slots := 0, locals := 22 } : Room) s m #[(.ref a)] below meth c T26 _ 0 0 := X'
    clear X' N' e'
    show own_E p e below Qq T26 (mkF m 41 #[.val (.ref a)] [(.long (F7_0 g_v0 (32 : Int32))), (.ref a)])
    obtain ⟨T27, h27, X27, e27, W27, st27⟩ := putF X hx hZ hown (host := "") (Or.inl (hw _ (List.mem_of_getElem? (i := 19) rfl))) Via.refl rfl (own_Ig_v0 I) (own_Iex I) (Or.inl (hw _ (List.mem_of_getElem? (i := 20) rfl))) (hw _ (List.mem_of_getElem? (i := 1) rfl)) (ty := .long) (by decide) rfl rfl (g := (mkF m 41 #[.val (.ref a)] [(.long (F7_0 g_v0 (32 : Int32))), (.ref a)])) rfl rfl (hb hby d6_41)
    subst e27
    refine own_st st27 ?_
    replace N := Fr.snoc X27 N (own_Ina I)
    replace I := own_Is_v0 hw W27 I
    replace X := X27
    clear st27 X27
    show own_E p e below Qq T27 (mkF m 44 #[.val (.ref a)] [])
    exact B44 _ _ (F7_0 g_v0 (32 : Int32)) g_v1 g_v2 g_v3 X I N hF
  have B13 : ∀ (T : State) (L : List Loc) (g_v0 : Int64) (g_v1 : Int64) (g_v2 : Int64) (g_v3 : Int64), Stand p l e ({ frames := 1, cells := 0, slots := 0, locals := 22 } : Room) s m #[(.ref a)] below meth c T L 0 0 → own_I Z n0 T.heap a g_key0 g_key1 g_v0 g_v1 g_v2 g_v3 g_word g_length → Fr n0 L → w = F6_13 g_key0 g_key1 g_v0 g_v1 g_v2 g_v3 g_word g_length → own_E p e below Qq T (mkF m 13 #[.val (.ref a)] []) := by
    intro T L g_v0 g_v1 g_v2 g_v3 X I N hF
    refine own_st (fun _ => XS.aloadN X.here hx rfl (hb hby d6_13) rfl rfl) ?_
    show own_E p e below Qq T (mkF m 14 #[.val (.ref a)] [(.ref a)])
    refine own_st (fun _ => XS.aloadN X.here hx rfl (hb hby d6_14) rfl rfl) ?_
    show own_E p e below Qq T (mkF m 15 #[.val (.ref a)] [(.ref a), (.ref a)])
    obtain ⟨T28, X28, e28, st28⟩ := getF X hx hZ hown (host := "") (Or.inl (hw _ (List.mem_of_getElem? (i := 22) rfl))) Via.refl rfl (own_Ig_v1 I) (g := (mkF m 15 #[.val (.ref a)] [(.ref a), (.ref a)])) rfl rfl (hb hby d6_15)
    refine own_st st28 ?_
    replace I := own_tr (P := fun h => own_I Z n0 h a g_key0 g_key1 g_v0 g_v1 g_v2 g_v3 g_word g_length) e28 I
    replace X := X28
    clear st28 e28 X28
    show own_E p e below Qq T28 (mkF m 18 #[.val (.ref a)] [(.long g_v1), (.ref a)])
    refine own_st (fun _ => XS.bipush X.here hx rfl (hb hby d6_18)) ?_
    show own_E p e below Qq T28 (mkF m 20 #[.val (.ref a)] [(.int (13 : Int32)), (.long g_v1), (.ref a)])
    refine own_callS X hx hZ hown (hw _ (List.mem_of_getElem? (i := 48) rfl)) (hw _ (List.mem_of_getElem? (i := 49) rfl)) (hw _ (List.mem_of_getElem? (i := 50) rfl)) (hw _ (List.mem_of_getElem? (i := 51) rfl)) (by decide) (W := 1) (argsL := [(.long g_v1), (.int (13 : Int32))]) (rest := [(.ref a)]) (rm7 l Z a0 hw g_v1 (13 : Int32) _ n0) (by decide) (by decide) (by decide) (by decide) rfl (by rw [hml]; rfl) (lenOf pd_7 rfl) rfl (by show 2 * 0 + _ ≤ _; exact Nat.le_of_eq rfl) (hb hby d6_20) ?_
    intro T29 L29 v X' hq
    obtain ⟨rfl, N', e'⟩ := hq
    replace I := own_tr (P := fun h => own_I Z n0 h a g_key0 g_key1 g_v0 g_v1 g_v2 g_v3 g_word g_length) e' I
    replace N := Fr.app N N'
    replace X : Stand p l e ({ frames := 1, cells := 0, slots := 0, locals := 22 } : Room) s m #[(.ref a)] below meth c T29 _ 0 0 := X'
    clear X' N' e'
    show own_E p e below Qq T29 (mkF m 23 #[.val (.ref a)] [(.long (F7_0 g_v1 (13 : Int32))), (.ref a)])
    refine own_st (fun _ => XS.aloadN X.here hx rfl (hb hby d6_23) rfl rfl) ?_
    show own_E p e below Qq T29 (mkF m 24 #[.val (.ref a)] [(.ref a), (.long (F7_0 g_v1 (13 : Int32))), (.ref a)])
    obtain ⟨T30, X30, e30, st30⟩ := getF X hx hZ hown (host := "") (Or.inl (hw _ (List.mem_of_getElem? (i := 19) rfl))) Via.refl rfl (own_Ig_v0 I) (g := (mkF m 24 #[.val (.ref a)] [(.ref a), (.long (F7_0 g_v1 (13 : Int32))), (.ref a)])) rfl rfl (hb hby d6_24)
    refine own_st st30 ?_
    replace I := own_tr (P := fun h => own_I Z n0 h a g_key0 g_key1 g_v0 g_v1 g_v2 g_v3 g_word g_length) e30 I
    replace X := X30
    clear st30 e30 X30
    show own_E p e below Qq T30 (mkF m 27 #[.val (.ref a)] [(.long g_v0), (.long (F7_0 g_v1 (13 : Int32))), (.ref a)])
    refine own_st (fun _ => XT.lxor X.here hx rfl (hb hby d6_27) rfl) ?_
    show own_E p e below Qq T30 (mkF m 28 #[.val (.ref a)] [(.long ((F7_0 g_v1 (13 : Int32)) ^^^ g_v0)), (.ref a)])
    obtain ⟨T31, h31, X31, e31, W31, st31⟩ := putF X hx hZ hown (host := "") (Or.inl (hw _ (List.mem_of_getElem? (i := 22) rfl))) Via.refl rfl (own_Ig_v1 I) (own_Iex I) (Or.inl (hw _ (List.mem_of_getElem? (i := 23) rfl))) (hw _ (List.mem_of_getElem? (i := 1) rfl)) (ty := .long) (by decide) rfl rfl (g := (mkF m 28 #[.val (.ref a)] [(.long ((F7_0 g_v1 (13 : Int32)) ^^^ g_v0)), (.ref a)])) rfl rfl (hb hby d6_28)
    subst e31
    refine own_st st31 ?_
    replace N := Fr.snoc X31 N (own_Ina I)
    replace I := own_Is_v1 hw W31 I
    replace X := X31
    clear st31 X31
    show own_E p e below Qq T31 (mkF m 31 #[.val (.ref a)] [])
    exact B31 _ _ g_v0 ((F7_0 g_v1 (13 : Int32)) ^^^ g_v0) g_v2 g_v3 X I N hF
  show own_E p e below Qq T (mkF m 0 #[.val (.ref a)] [])
  refine own_st (fun _ => XS.aloadN X.here hx rfl (hb hby d6_0) rfl rfl) ?_
  show own_E p e below Qq T (mkF m 1 #[.val (.ref a)] [(.ref a)])
  refine own_st (fun _ => XS.dup X.here hx rfl (hb hby d6_1) rfl rfl) ?_
  show own_E p e below Qq T (mkF m 2 #[.val (.ref a)] [(.ref a), (.ref a)])
  obtain ⟨T32, X32, e32, st32⟩ := getF X hx hZ hown (host := "") (Or.inl (hw _ (List.mem_of_getElem? (i := 19) rfl))) Via.refl rfl (own_Ig_v0 I) (g := (mkF m 2 #[.val (.ref a)] [(.ref a), (.ref a)])) rfl rfl (hb hby d6_2)
  refine own_st st32 ?_
  replace I := own_tr (P := fun h => own_I Z n0 h a g_key0 g_key1 g_v0 g_v1 g_v2 g_v3 g_word g_length) e32 I
  replace X := X32
  clear st32 e32 X32
  show own_E p e below Qq T32 (mkF m 5 #[.val (.ref a)] [(.long g_v0), (.ref a)])
  refine own_st (fun _ => XS.aloadN X.here hx rfl (hb hby d6_5) rfl rfl) ?_
  show own_E p e below Qq T32 (mkF m 6 #[.val (.ref a)] [(.ref a), (.long g_v0), (.ref a)])
  obtain ⟨T33, X33, e33, st33⟩ := getF X hx hZ hown (host := "") (Or.inl (hw _ (List.mem_of_getElem? (i := 22) rfl))) Via.refl rfl (own_Ig_v1 I) (g := (mkF m 6 #[.val (.ref a)] [(.ref a), (.long g_v0), (.ref a)])) rfl rfl (hb hby d6_6)
  refine own_st st33 ?_
  replace I := own_tr (P := fun h => own_I Z n0 h a g_key0 g_key1 g_v0 g_v1 g_v2 g_v3 g_word g_length) e33 I
  replace X := X33
  clear st33 e33 X33
  show own_E p e below Qq T33 (mkF m 9 #[.val (.ref a)] [(.long g_v1), (.long g_v0), (.ref a)])
  refine own_st (fun _ => XT.ladd X.here hx rfl (hb hby d6_9) rfl) ?_
  show own_E p e below Qq T33 (mkF m 10 #[.val (.ref a)] [(.long (g_v0 + g_v1)), (.ref a)])
  obtain ⟨T34, h34, X34, e34, W34, st34⟩ := putF X hx hZ hown (host := "") (Or.inl (hw _ (List.mem_of_getElem? (i := 19) rfl))) Via.refl rfl (own_Ig_v0 I) (own_Iex I) (Or.inl (hw _ (List.mem_of_getElem? (i := 20) rfl))) (hw _ (List.mem_of_getElem? (i := 1) rfl)) (ty := .long) (by decide) rfl rfl (g := (mkF m 10 #[.val (.ref a)] [(.long (g_v0 + g_v1)), (.ref a)])) rfl rfl (hb hby d6_10)
  subst e34
  refine own_st st34 ?_
  replace N := Fr.snoc X34 N (own_Ina I)
  replace I := own_Is_v0 hw W34 I
  replace X := X34
  clear st34 X34
  show own_E p e below Qq T34 (mkF m 13 #[.val (.ref a)] [])
  exact B13 _ _ (g_v0 + g_v1) g_v1 g_v2 g_v3 X I N hF
theorem pd_5 : parseMethodDescriptor "(J)V" = some ⟨[.long], none⟩ := by decide +kernel
theorem d5_0 : decode prog_118_method_7_code 0 = .ok (.aload_n 0, 1) := by decide +kernel
theorem d5_1 : decode prog_118_method_7_code 1 = .ok (.dup, 1) := by decide +kernel
theorem d5_2 : decode prog_118_method_7_code 2 = .ok (.getfield 36, 3) := by decide +kernel
theorem d5_5 : decode prog_118_method_7_code 5 = .ok (.lload_n 1, 1) := by decide +kernel
theorem d5_6 : decode prog_118_method_7_code 6 = .ok (.lxor, 1) := by decide +kernel
theorem d5_7 : decode prog_118_method_7_code 7 = .ok (.putfield 36, 3) := by decide +kernel
theorem d5_10 : decode prog_118_method_7_code 10 = .ok (.aload_n 0, 1) := by decide +kernel
theorem d5_11 : decode prog_118_method_7_code 11 = .ok (.invokevirtual 59, 3) := by decide +kernel
theorem d5_14 : decode prog_118_method_7_code 14 = .ok (.aload_n 0, 1) := by decide +kernel
theorem d5_15 : decode prog_118_method_7_code 15 = .ok (.invokevirtual 59, 3) := by decide +kernel
theorem d5_18 : decode prog_118_method_7_code 18 = .ok (.aload_n 0, 1) := by decide +kernel
theorem d5_19 : decode prog_118_method_7_code 19 = .ok (.dup, 1) := by decide +kernel
theorem d5_20 : decode prog_118_method_7_code 20 = .ok (.getfield 21, 3) := by decide +kernel
theorem d5_23 : decode prog_118_method_7_code 23 = .ok (.lload_n 1, 1) := by decide +kernel
theorem d5_24 : decode prog_118_method_7_code 24 = .ok (.lxor, 1) := by decide +kernel
theorem d5_25 : decode prog_118_method_7_code 25 = .ok (.putfield 21, 3) := by decide +kernel
theorem d5_28 : decode prog_118_method_7_code 28 = .ok (.return_, 1) := by decide +kernel
theorem ef_5 (m : MethodId) (a : Addr) (p0 : Int64) : entryFrame m #[(.ref a), (.long p0)] 3 = (mkF m 0 #[.val (.ref a), .val (.long p0), .second] []) := by first | (simp [entryFrame, mkF, argsToLocals, Value.category, maxLocals]; done) | rfl
def F5_28 (x0 : Int64) (g_key0 : Int64) (g_key1 : Int64) (g_v0 : Int64) (g_v1 : Int64) (g_v2 : Int64) (g_v3 : Int64) (g_word : Int64) (g_length : Int32) : Int64 × Int64 × Int64 × Int64 := (g_v0, g_v1, g_v2, g_v3)
def F5_18 (x0 : Int64) (g_key0 : Int64) (g_key1 : Int64) (g_v0 : Int64) (g_v1 : Int64) (g_v2 : Int64) (g_v3 : Int64) (g_word : Int64) (g_length : Int32) : Int64 × Int64 × Int64 × Int64 := (F5_28 x0 g_key0 g_key1 (g_v0 ^^^ x0) g_v1 g_v2 g_v3 g_word g_length)
def F5_14 (x0 : Int64) (g_key0 : Int64) (g_key1 : Int64) (g_v0 : Int64) (g_v1 : Int64) (g_v2 : Int64) (g_v3 : Int64) (g_word : Int64) (g_length : Int32) : Int64 × Int64 × Int64 × Int64 := (F5_18 x0 g_key0 g_key1 (F6_0 g_key0 g_key1 g_v0 g_v1 g_v2 g_v3 g_word g_length).1 (F6_0 g_key0 g_key1 g_v0 g_v1 g_v2 g_v3 g_word g_length).2.1 (F6_0 g_key0 g_key1 g_v0 g_v1 g_v2 g_v3 g_word g_length).2.2.1 (F6_0 g_key0 g_key1 g_v0 g_v1 g_v2 g_v3 g_word g_length).2.2.2 g_word g_length)
def F5_10 (x0 : Int64) (g_key0 : Int64) (g_key1 : Int64) (g_v0 : Int64) (g_v1 : Int64) (g_v2 : Int64) (g_v3 : Int64) (g_word : Int64) (g_length : Int32) : Int64 × Int64 × Int64 × Int64 := (F5_14 x0 g_key0 g_key1 (F6_0 g_key0 g_key1 g_v0 g_v1 g_v2 g_v3 g_word g_length).1 (F6_0 g_key0 g_key1 g_v0 g_v1 g_v2 g_v3 g_word g_length).2.1 (F6_0 g_key0 g_key1 g_v0 g_v1 g_v2 g_v3 g_word g_length).2.2.1 (F6_0 g_key0 g_key1 g_v0 g_v1 g_v2 g_v3 g_word g_length).2.2.2 g_word g_length)
def F5_0 (x0 : Int64) (g_key0 : Int64) (g_key1 : Int64) (g_v0 : Int64) (g_v1 : Int64) (g_v2 : Int64) (g_v3 : Int64) (g_word : Int64) (g_length : Int32) : Int64 × Int64 × Int64 × Int64 := (F5_10 x0 g_key0 g_key1 g_v0 g_v1 g_v2 (g_v3 ^^^ x0) g_word g_length)
set_option maxRecDepth 65536 in
set_option maxHeartbeats 40000000 in
theorem rm5 (l : Launch) (Z : State) (a0 : Array Value) (hw : ∀ d ∈ tables_1, d.before a0 Z = true) (a : Addr) (p0 : Int64) (g_key0 : Int64) (g_key1 : Int64) (g_v0 : Int64) (g_v1 : Int64) (g_v2 : Int64) (g_v3 : Int64) (g_word : Int64) (g_length : Int32) (h0 : Heap) (n0 : Nat) (I : own_I Z n0 h0 a g_key0 g_key1 g_v0 g_v1 g_v2 g_v3 g_word g_length) :
    own_M l Z (⟨"com/example/tomekeeper/tomekeeper/tome/SipHash", "compress", "(J)V"⟩ : MethodName) prog_118_method_7_code 3 none ({ frames := 2, cells := 0, slots := 0, locals := 42 } : Room) #[(.ref a), (.long p0)] h0 (fun v h L => v = none ∧ Fr n0 L ∧ own_I Z n0 h a g_key0 g_key1 (F5_0 p0 g_key0 g_key1 g_v0 g_v1 g_v2 g_v3 g_word g_length).1 (F5_0 p0 g_key0 g_key1 g_v0 g_v1 g_v2 g_v3 g_word g_length).2.1 (F5_0 p0 g_key0 g_key1 g_v0 g_v1 g_v2 g_v3 g_word g_length).2.2.1 (F5_0 p0 g_key0 g_key1 g_v0 g_v1 g_v2 g_v3 g_word g_length).2.2.2 g_word g_length) := by
  refine own_body pn_3 ?_
  intro p e s m below meth c T hx hby hml hown hZ hret hlk hnm X eT
  have N := Fr.nil n0
  replace I : own_I Z n0 T.heap a g_key0 g_key1 g_v0 g_v1 g_v2 g_v3 g_word g_length := by rw [eT]; exact I
  obtain ⟨w, hF⟩ : ∃ w, w = F5_0 p0 g_key0 g_key1 g_v0 g_v1 g_v2 g_v3 g_word g_length := ⟨_, rfl⟩
  try rw [← hF]
  generalize hQ : own_Q s (fun v h L => v = none ∧ Fr n0 L ∧ own_I Z n0 h a g_key0 g_key1 w.1 w.2.1 w.2.2.1 w.2.2.2 g_word g_length) ({ frames := 2, cells := 0, slots := 0, locals := 42 } : Room).cells ({ frames := 2, cells := 0, slots := 0, locals := 42 } : Room).slots = Qq
  refine own_st (fun _ k => castTop (ef_5 m a p0) k) ?_
  clear eT
  have B28 : ∀ (T : State) (L : List Loc) (x0 : Int64) (g_v0 : Int64) (g_v1 : Int64) (g_v2 : Int64) (g_v3 : Int64), Stand p l e ({ frames := 2, cells := 0, slots := 0, locals := 42 } : Room) s m #[(.ref a), (.long p0)] below meth c T L 0 0 → own_I Z n0 T.heap a g_key0 g_key1 g_v0 g_v1 g_v2 g_v3 g_word g_length → Fr n0 L → w = F5_28 x0 g_key0 g_key1 g_v0 g_v1 g_v2 g_v3 g_word g_length → own_E p e below Qq T (mkF m 28 #[.val (.ref a), .val (.long x0), .second] []) := by
    intro T L x0 g_v0 g_v1 g_v2 g_v3 X I N hF
    rw [← hQ]
    exact own_retV X hx hlk hret (hb hby d5_28) (by decide) (by decide) ⟨rfl, N, (by first | (rw [hF]; exact I) | exact I)⟩
  have B18 : ∀ (T : State) (L : List Loc) (x0 : Int64) (g_v0 : Int64) (g_v1 : Int64) (g_v2 : Int64) (g_v3 : Int64), Stand p l e ({ frames := 2, cells := 0, slots := 0, locals := 42 } : Room) s m #[(.ref a), (.long p0)] below meth c T L 0 0 → own_I Z n0 T.heap a g_key0 g_key1 g_v0 g_v1 g_v2 g_v3 g_word g_length → Fr n0 L → w = F5_18 x0 g_key0 g_key1 g_v0 g_v1 g_v2 g_v3 g_word g_length → own_E p e below Qq T (mkF m 18 #[.val (.ref a), .val (.long x0), .second] []) := by
    intro T L x0 g_v0 g_v1 g_v2 g_v3 X I N hF
    refine own_st (fun _ => XS.aloadN X.here hx rfl (hb hby d5_18) rfl rfl) ?_
    show own_E p e below Qq T (mkF m 19 #[.val (.ref a), .val (.long x0), .second] [(.ref a)])
    refine own_st (fun _ => XS.dup X.here hx rfl (hb hby d5_19) rfl rfl) ?_
    show own_E p e below Qq T (mkF m 20 #[.val (.ref a), .val (.long x0), .second] [(.ref a), (.ref a)])
    obtain ⟨T1, X1, e1, st1⟩ := getF X hx hZ hown (host := "") (Or.inl (hw _ (List.mem_of_getElem? (i := 19) rfl))) Via.refl rfl (own_Ig_v0 I) (g := (mkF m 20 #[.val (.ref a), .val (.long x0), .second] [(.ref a), (.ref a)])) rfl rfl (hb hby d5_20)
    refine own_st st1 ?_
    replace I := own_tr (P := fun h => own_I Z n0 h a g_key0 g_key1 g_v0 g_v1 g_v2 g_v3 g_word g_length) e1 I
    replace X := X1
    clear st1 e1 X1
    show own_E p e below Qq T1 (mkF m 23 #[.val (.ref a), .val (.long x0), .second] [(.long g_v0), (.ref a)])
    refine own_st (fun _ => XT.lloadN X.here hx rfl (hb hby d5_23) rfl) ?_
    show own_E p e below Qq T1 (mkF m 24 #[.val (.ref a), .val (.long x0), .second] [(.long x0), (.long g_v0), (.ref a)])
    refine own_st (fun _ => XT.lxor X.here hx rfl (hb hby d5_24) rfl) ?_
    show own_E p e below Qq T1 (mkF m 25 #[.val (.ref a), .val (.long x0), .second] [(.long (g_v0 ^^^ x0)), (.ref a)])
    obtain ⟨T2, h2, X2, e2, W2, st2⟩ := putF X hx hZ hown (host := "") (Or.inl (hw _ (List.mem_of_getElem? (i := 19) rfl))) Via.refl rfl (own_Ig_v0 I) (own_Iex I) (Or.inl (hw _ (List.mem_of_getElem? (i := 20) rfl))) (hw _ (List.mem_of_getElem? (i := 1) rfl)) (ty := .long) (by decide) rfl rfl (g := (mkF m 25 #[.val (.ref a), .val (.long x0), .second] [(.long (g_v0 ^^^ x0)), (.ref a)])) rfl rfl (hb hby d5_25)
    subst e2
    refine own_st st2 ?_
    replace N := Fr.snoc X2 N (own_Ina I)
    replace I := own_Is_v0 hw W2 I
    replace X := X2
    clear st2 X2
    show own_E p e below Qq T2 (mkF m 28 #[.val (.ref a), .val (.long x0), .second] [])
    exact B28 _ _ x0 (g_v0 ^^^ x0) g_v1 g_v2 g_v3 X I N hF
  have B14 : ∀ (T : State) (L : List Loc) (x0 : Int64) (g_v0 : Int64) (g_v1 : Int64) (g_v2 : Int64) (g_v3 : Int64), Stand p l e ({ frames := 2, cells := 0, slots := 0, locals := 42 } : Room) s m #[(.ref a), (.long p0)] below meth c T L 0 0 → own_I Z n0 T.heap a g_key0 g_key1 g_v0 g_v1 g_v2 g_v3 g_word g_length → Fr n0 L → w = F5_14 x0 g_key0 g_key1 g_v0 g_v1 g_v2 g_v3 g_word g_length → own_E p e below Qq T (mkF m 14 #[.val (.ref a), .val (.long x0), .second] []) := by
    intro T L x0 g_v0 g_v1 g_v2 g_v3 X I N hF
    refine own_st (fun _ => XS.aloadN X.here hx rfl (hb hby d5_14) rfl rfl) ?_
    show own_E p e below Qq T (mkF m 15 #[.val (.ref a), .val (.long x0), .second] [(.ref a)])
    refine own_callP X hx hZ (z := (⟨"com/example/tomekeeper/tomekeeper/tome/SipHash", "start", "()V"⟩ : MethodName)) hown (hw _ (List.mem_of_getElem? (i := 44) rfl)) (hw _ (List.mem_of_getElem? (i := 16) rfl)) rfl (hw _ (List.mem_of_getElem? (i := 46) rfl)) (hw _ (List.mem_of_getElem? (i := 45) rfl)) (hw _ (List.mem_of_getElem? (i := 2) rfl)) (hw _ (List.mem_of_getElem? (i := 47) rfl)) (by decide) (own_Iex I) (W := 0) (argsL := []) (rest := []) (rm6 l Z a0 hw a g_key0 g_key1 g_v0 g_v1 g_v2 g_v3 g_word g_length _ n0 I) (by decide) (by decide) (by decide) (by decide) rfl (by rw [hml]; rfl) (lenOf pd_3 rfl) rfl (by show 2 * 0 + _ ≤ _; exact Nat.le_of_eq rfl) (hb hby d5_15) ?_
    intro T3 L3 v X' hq
    obtain ⟨rfl, N', I'⟩ := hq
    replace I := I'
    replace N := Fr.app N N'
    replace X : Stand p l e ({ frames := 2, cells := 0, slots := 0, locals := 42 } : Room) s m #[(.ref a), (.long p0)] below meth c T3 _ 0 0 := X'
    clear X' N' I'
    show own_E p e below Qq T3 (mkF m 18 #[.val (.ref a), .val (.long x0), .second] [])
    exact B18 _ _ x0 (F6_0 g_key0 g_key1 g_v0 g_v1 g_v2 g_v3 g_word g_length).1 (F6_0 g_key0 g_key1 g_v0 g_v1 g_v2 g_v3 g_word g_length).2.1 (F6_0 g_key0 g_key1 g_v0 g_v1 g_v2 g_v3 g_word g_length).2.2.1 (F6_0 g_key0 g_key1 g_v0 g_v1 g_v2 g_v3 g_word g_length).2.2.2 X I N hF
  have B10 : ∀ (T : State) (L : List Loc) (x0 : Int64) (g_v0 : Int64) (g_v1 : Int64) (g_v2 : Int64) (g_v3 : Int64), Stand p l e ({ frames := 2, cells := 0, slots := 0, locals := 42 } : Room) s m #[(.ref a), (.long p0)] below meth c T L 0 0 → own_I Z n0 T.heap a g_key0 g_key1 g_v0 g_v1 g_v2 g_v3 g_word g_length → Fr n0 L → w = F5_10 x0 g_key0 g_key1 g_v0 g_v1 g_v2 g_v3 g_word g_length → own_E p e below Qq T (mkF m 10 #[.val (.ref a), .val (.long x0), .second] []) := by
    intro T L x0 g_v0 g_v1 g_v2 g_v3 X I N hF
    refine own_st (fun _ => XS.aloadN X.here hx rfl (hb hby d5_10) rfl rfl) ?_
    show own_E p e below Qq T (mkF m 11 #[.val (.ref a), .val (.long x0), .second] [(.ref a)])
    refine own_callP X hx hZ (z := (⟨"com/example/tomekeeper/tomekeeper/tome/SipHash", "start", "()V"⟩ : MethodName)) hown (hw _ (List.mem_of_getElem? (i := 44) rfl)) (hw _ (List.mem_of_getElem? (i := 16) rfl)) rfl (hw _ (List.mem_of_getElem? (i := 46) rfl)) (hw _ (List.mem_of_getElem? (i := 45) rfl)) (hw _ (List.mem_of_getElem? (i := 2) rfl)) (hw _ (List.mem_of_getElem? (i := 47) rfl)) (by decide) (own_Iex I) (W := 0) (argsL := []) (rest := []) (rm6 l Z a0 hw a g_key0 g_key1 g_v0 g_v1 g_v2 g_v3 g_word g_length _ n0 I) (by decide) (by decide) (by decide) (by decide) rfl (by rw [hml]; rfl) (lenOf pd_3 rfl) rfl (by show 2 * 0 + _ ≤ _; exact Nat.le_of_eq rfl) (hb hby d5_11) ?_
    intro T4 L4 v X' hq
    obtain ⟨rfl, N', I'⟩ := hq
    replace I := I'
    replace N := Fr.app N N'
    replace X : Stand p l e ({ frames := 2, cells := 0, slots := 0, locals := 42 } : Room) s m #[(.ref a), (.long p0)] below meth c T4 _ 0 0 := X'
    clear X' N' I'
    show own_E p e below Qq T4 (mkF m 14 #[.val (.ref a), .val (.long x0), .second] [])
    exact B14 _ _ x0 (F6_0 g_key0 g_key1 g_v0 g_v1 g_v2 g_v3 g_word g_length).1 (F6_0 g_key0 g_key1 g_v0 g_v1 g_v2 g_v3 g_word g_length).2.1 (F6_0 g_key0 g_key1 g_v0 g_v1 g_v2 g_v3 g_word g_length).2.2.1 (F6_0 g_key0 g_key1 g_v0 g_v1 g_v2 g_v3 g_word g_length).2.2.2 X I N hF
  show own_E p e below Qq T (mkF m 0 #[.val (.ref a), .val (.long p0), .second] [])
  refine own_st (fun _ => XS.aloadN X.here hx rfl (hb hby d5_0) rfl rfl) ?_
  show own_E p e below Qq T (mkF m 1 #[.val (.ref a), .val (.long p0), .second] [(.ref a)])
  refine own_st (fun _ => XS.dup X.here hx rfl (hb hby d5_1) rfl rfl) ?_
  show own_E p e below Qq T (mkF m 2 #[.val (.ref a), .val (.long p0), .second] [(.ref a), (.ref a)])
  obtain ⟨T5, X5, e5, st5⟩ := getF X hx hZ hown (host := "") (Or.inl (hw _ (List.mem_of_getElem? (i := 28) rfl))) Via.refl rfl (own_Ig_v3 I) (g := (mkF m 2 #[.val (.ref a), .val (.long p0), .second] [(.ref a), (.ref a)])) rfl rfl (hb hby d5_2)
  refine own_st st5 ?_
  replace I := own_tr (P := fun h => own_I Z n0 h a g_key0 g_key1 g_v0 g_v1 g_v2 g_v3 g_word g_length) e5 I
  replace X := X5
  clear st5 e5 X5
  show own_E p e below Qq T5 (mkF m 5 #[.val (.ref a), .val (.long p0), .second] [(.long g_v3), (.ref a)])
  refine own_st (fun _ => XT.lloadN X.here hx rfl (hb hby d5_5) rfl) ?_
  show own_E p e below Qq T5 (mkF m 6 #[.val (.ref a), .val (.long p0), .second] [(.long p0), (.long g_v3), (.ref a)])
  refine own_st (fun _ => XT.lxor X.here hx rfl (hb hby d5_6) rfl) ?_
  show own_E p e below Qq T5 (mkF m 7 #[.val (.ref a), .val (.long p0), .second] [(.long (g_v3 ^^^ p0)), (.ref a)])
  obtain ⟨T6, h6, X6, e6, W6, st6⟩ := putF X hx hZ hown (host := "") (Or.inl (hw _ (List.mem_of_getElem? (i := 28) rfl))) Via.refl rfl (own_Ig_v3 I) (own_Iex I) (Or.inl (hw _ (List.mem_of_getElem? (i := 29) rfl))) (hw _ (List.mem_of_getElem? (i := 1) rfl)) (ty := .long) (by decide) rfl rfl (g := (mkF m 7 #[.val (.ref a), .val (.long p0), .second] [(.long (g_v3 ^^^ p0)), (.ref a)])) rfl rfl (hb hby d5_7)
  subst e6
  refine own_st st6 ?_
  replace N := Fr.snoc X6 N (own_Ina I)
  replace I := own_Is_v3 hw W6 I
  replace X := X6
  clear st6 X6
  show own_E p e below Qq T6 (mkF m 10 #[.val (.ref a), .val (.long p0), .second] [])
  exact B10 _ _ p0 g_v0 g_v1 g_v2 (g_v3 ^^^ p0) X I N hF
theorem pd_9 : parseMethodDescriptor "(I)V" = some ⟨[.int], none⟩ := by decide +kernel
theorem d9_0 : decode prog_118_method_3_code 0 = .ok (.aload_n 0, 1) := by decide +kernel
theorem d9_1 : decode prog_118_method_3_code 1 = .ok (.dup, 1) := by decide +kernel
theorem d9_2 : decode prog_118_method_3_code 2 = .ok (.getfield 39, 3) := by decide +kernel
theorem d9_5 : decode prog_118_method_3_code 5 = .ok (.iload_n 1, 1) := by decide +kernel
theorem d9_6 : decode prog_118_method_3_code 6 = .ok (.i2l, 1) := by decide +kernel
theorem d9_7 : decode prog_118_method_3_code 7 = .ok (.ldc2_w 46, 3) := by decide +kernel
theorem d9_10 : decode prog_118_method_3_code 10 = .ok (.land, 1) := by decide +kernel
theorem d9_11 : decode prog_118_method_3_code 11 = .ok (.bipush 8, 2) := by decide +kernel
theorem d9_13 : decode prog_118_method_3_code 13 = .ok (.aload_n 0, 1) := by decide +kernel
theorem d9_14 : decode prog_118_method_3_code 14 = .ok (.getfield 42, 3) := by decide +kernel
theorem d9_17 : decode prog_118_method_3_code 17 = .ok (.bipush 7, 2) := by decide +kernel
theorem d9_19 : decode prog_118_method_3_code 19 = .ok (.iand, 1) := by decide +kernel
theorem d9_20 : decode prog_118_method_3_code 20 = .ok (.imul, 1) := by decide +kernel
theorem d9_21 : decode prog_118_method_3_code 21 = .ok (.lshl, 1) := by decide +kernel
theorem d9_22 : decode prog_118_method_3_code 22 = .ok (.lor, 1) := by decide +kernel
theorem d9_23 : decode prog_118_method_3_code 23 = .ok (.putfield 39, 3) := by decide +kernel
theorem d9_26 : decode prog_118_method_3_code 26 = .ok (.aload_n 0, 1) := by decide +kernel
theorem d9_27 : decode prog_118_method_3_code 27 = .ok (.dup, 1) := by decide +kernel
theorem d9_28 : decode prog_118_method_3_code 28 = .ok (.getfield 42, 3) := by decide +kernel
theorem d9_31 : decode prog_118_method_3_code 31 = .ok (.iconst 1, 1) := by decide +kernel
theorem d9_32 : decode prog_118_method_3_code 32 = .ok (.iadd, 1) := by decide +kernel
theorem d9_33 : decode prog_118_method_3_code 33 = .ok (.putfield 42, 3) := by decide +kernel
theorem d9_36 : decode prog_118_method_3_code 36 = .ok (.aload_n 0, 1) := by decide +kernel
theorem d9_37 : decode prog_118_method_3_code 37 = .ok (.getfield 42, 3) := by decide +kernel
theorem d9_40 : decode prog_118_method_3_code 40 = .ok (.bipush 7, 2) := by decide +kernel
theorem d9_42 : decode prog_118_method_3_code 42 = .ok (.iand, 1) := by decide +kernel
theorem d9_43 : decode prog_118_method_3_code 43 = .ok (.ifCond .ne 16, 3) := by decide +kernel
theorem d9_46 : decode prog_118_method_3_code 46 = .ok (.aload_n 0, 1) := by decide +kernel
theorem d9_47 : decode prog_118_method_3_code 47 = .ok (.aload_n 0, 1) := by decide +kernel
theorem d9_48 : decode prog_118_method_3_code 48 = .ok (.getfield 39, 3) := by decide +kernel
theorem d9_51 : decode prog_118_method_3_code 51 = .ok (.invokevirtual 48, 3) := by decide +kernel
theorem d9_54 : decode prog_118_method_3_code 54 = .ok (.aload_n 0, 1) := by decide +kernel
theorem d9_55 : decode prog_118_method_3_code 55 = .ok (.lconst 0, 1) := by decide +kernel
theorem d9_56 : decode prog_118_method_3_code 56 = .ok (.putfield 39, 3) := by decide +kernel
theorem d9_59 : decode prog_118_method_3_code 59 = .ok (.return_, 1) := by decide +kernel
theorem ef_9 (m : MethodId) (a : Addr) (p0 : Int32) : entryFrame m #[(.ref a), (.int p0)] 2 = (mkF m 0 #[.val (.ref a), .val (.int p0)] []) := by first | (simp [entryFrame, mkF, argsToLocals, Value.category, maxLocals]; done) | rfl
def F9_59 (x0 : Int32) (g_key0 : Int64) (g_key1 : Int64) (g_v0 : Int64) (g_v1 : Int64) (g_v2 : Int64) (g_v3 : Int64) (g_word : Int64) (g_length : Int32) : Int64 × Int64 × Int64 × Int64 × Int64 × Int32 := (g_v0, g_v1, g_v2, g_v3, g_word, g_length)
def F9_54 (x0 : Int32) (g_key0 : Int64) (g_key1 : Int64) (g_v0 : Int64) (g_v1 : Int64) (g_v2 : Int64) (g_v3 : Int64) (g_word : Int64) (g_length : Int32) : Int64 × Int64 × Int64 × Int64 × Int64 × Int32 := (F9_59 x0 g_key0 g_key1 g_v0 g_v1 g_v2 g_v3 (0 : Int64) g_length)
def F9_36 (x0 : Int32) (g_key0 : Int64) (g_key1 : Int64) (g_v0 : Int64) (g_v1 : Int64) (g_v2 : Int64) (g_v3 : Int64) (g_word : Int64) (g_length : Int32) : Int64 × Int64 × Int64 × Int64 × Int64 × Int32 := (if (g_length &&& (7 : Int32)) = (0 : Int32) then (F9_54 x0 g_key0 g_key1 (F5_0 g_word g_key0 g_key1 g_v0 g_v1 g_v2 g_v3 g_word g_length).1 (F5_0 g_word g_key0 g_key1 g_v0 g_v1 g_v2 g_v3 g_word g_length).2.1 (F5_0 g_word g_key0 g_key1 g_v0 g_v1 g_v2 g_v3 g_word g_length).2.2.1 (F5_0 g_word g_key0 g_key1 g_v0 g_v1 g_v2 g_v3 g_word g_length).2.2.2 g_word g_length) else (F9_59 x0 g_key0 g_key1 g_v0 g_v1 g_v2 g_v3 g_word g_length))
def F9_26 (x0 : Int32) (g_key0 : Int64) (g_key1 : Int64) (g_v0 : Int64) (g_v1 : Int64) (g_v2 : Int64) (g_v3 : Int64) (g_word : Int64) (g_length : Int32) : Int64 × Int64 × Int64 × Int64 × Int64 × Int32 := (F9_36 x0 g_key0 g_key1 g_v0 g_v1 g_v2 g_v3 g_word (g_length + (1 : Int32)))
def F9_0 (x0 : Int32) (g_key0 : Int64) (g_key1 : Int64) (g_v0 : Int64) (g_v1 : Int64) (g_v2 : Int64) (g_v3 : Int64) (g_word : Int64) (g_length : Int32) : Int64 × Int64 × Int64 × Int64 × Int64 × Int32 := (F9_26 x0 g_key0 g_key1 g_v0 g_v1 g_v2 g_v3 (g_word ||| (((x0.toInt64) &&& (255 : Int64)) <<< (((8 : Int32) * (g_length &&& (7 : Int32))).toInt64 &&& 63))) g_length)
set_option maxRecDepth 65536 in
set_option maxHeartbeats 40000000 in
theorem rm9 (l : Launch) (Z : State) (a0 : Array Value) (hw : ∀ d ∈ tables_1, d.before a0 Z = true) (a : Addr) (p0 : Int32) (g_key0 : Int64) (g_key1 : Int64) (g_v0 : Int64) (g_v1 : Int64) (g_v2 : Int64) (g_v3 : Int64) (g_word : Int64) (g_length : Int32) (h0 : Heap) (n0 : Nat) (I : own_I Z n0 h0 a g_key0 g_key1 g_v0 g_v1 g_v2 g_v3 g_word g_length) :
    own_M l Z (⟨"com/example/tomekeeper/tomekeeper/tome/SipHash", "add", "(I)V"⟩ : MethodName) prog_118_method_3_code 2 none ({ frames := 3, cells := 0, slots := 0, locals := 64 } : Room) #[(.ref a), (.int p0)] h0 (fun v h L => v = none ∧ Fr n0 L ∧ own_I Z n0 h a g_key0 g_key1 (F9_0 p0 g_key0 g_key1 g_v0 g_v1 g_v2 g_v3 g_word g_length).1 (F9_0 p0 g_key0 g_key1 g_v0 g_v1 g_v2 g_v3 g_word g_length).2.1 (F9_0 p0 g_key0 g_key1 g_v0 g_v1 g_v2 g_v3 g_word g_length).2.2.1 (F9_0 p0 g_key0 g_key1 g_v0 g_v1 g_v2 g_v3 g_word g_length).2.2.2.1 (F9_0 p0 g_key0 g_key1 g_v0 g_v1 g_v2 g_v3 g_word g_length).2.2.2.2.1 (F9_0 p0 g_key0 g_key1 g_v0 g_v1 g_v2 g_v3 g_word g_length).2.2.2.2.2) := by
  refine own_body pn_3 ?_
  intro p e s m below meth c T hx hby hml hown hZ hret hlk hnm X eT
  have N := Fr.nil n0
  replace I : own_I Z n0 T.heap a g_key0 g_key1 g_v0 g_v1 g_v2 g_v3 g_word g_length := by rw [eT]; exact I
  obtain ⟨w, hF⟩ : ∃ w, w = F9_0 p0 g_key0 g_key1 g_v0 g_v1 g_v2 g_v3 g_word g_length := ⟨_, rfl⟩
  try rw [← hF]
  generalize hQ : own_Q s (fun v h L => v = none ∧ Fr n0 L ∧ own_I Z n0 h a g_key0 g_key1 w.1 w.2.1 w.2.2.1 w.2.2.2.1 w.2.2.2.2.1 w.2.2.2.2.2) ({ frames := 3, cells := 0, slots := 0, locals := 64 } : Room).cells ({ frames := 3, cells := 0, slots := 0, locals := 64 } : Room).slots = Qq
  refine own_st (fun _ k => castTop (ef_9 m a p0) k) ?_
  clear eT
  have B59 : ∀ (T : State) (L : List Loc) (x0 : Int32) (g_v0 : Int64) (g_v1 : Int64) (g_v2 : Int64) (g_v3 : Int64) (g_word : Int64) (g_length : Int32), Stand p l e ({ frames := 3, cells := 0, slots := 0, locals := 64 } : Room) s m #[(.ref a), (.int p0)] below meth c T L 0 0 → own_I Z n0 T.heap a g_key0 g_key1 g_v0 g_v1 g_v2 g_v3 g_word g_length → Fr n0 L → w = F9_59 x0 g_key0 g_key1 g_v0 g_v1 g_v2 g_v3 g_word g_length → own_E p e below Qq T (mkF m 59 #[.val (.ref a), .val (.int x0)] []) := by
    intro T L x0 g_v0 g_v1 g_v2 g_v3 g_word g_length X I N hF
    rw [← hQ]
    exact own_retV X hx hlk hret (hb hby d9_59) (by decide) (by decide) ⟨rfl, N, (by first | (rw [hF]; exact I) | exact I)⟩
  have B54 : ∀ (T : State) (L : List Loc) (x0 : Int32) (g_v0 : Int64) (g_v1 : Int64) (g_v2 : Int64) (g_v3 : Int64) (g_word : Int64) (g_length : Int32), Stand p l e ({ frames := 3, cells := 0, slots := 0, locals := 64 } : Room) s m #[(.ref a), (.int p0)] below meth c T L 0 0 → own_I Z n0 T.heap a g_key0 g_key1 g_v0 g_v1 g_v2 g_v3 g_word g_length → Fr n0 L → w = F9_54 x0 g_key0 g_key1 g_v0 g_v1 g_v2 g_v3 g_word g_length → own_E p e below Qq T (mkF m 54 #[.val (.ref a), .val (.int x0)] []) := by
    intro T L x0 g_v0 g_v1 g_v2 g_v3 g_word g_length X I N hF
    refine own_st (fun _ => XS.aloadN X.here hx rfl (hb hby d9_54) rfl rfl) ?_
    show own_E p e below Qq T (mkF m 55 #[.val (.ref a), .val (.int x0)] [(.ref a)])
    refine own_st (fun _ => XT.lconst X.here hx rfl (hb hby d9_55)) ?_
    show own_E p e below Qq T (mkF m 56 #[.val (.ref a), .val (.int x0)] [(.long (0 : Int64)), (.ref a)])
    obtain ⟨T1, h1, X1, e1, W1, st1⟩ := putF X hx hZ hown (host := "") (Or.inl (hw _ (List.mem_of_getElem? (i := 30) rfl))) Via.refl rfl (own_Ig_word I) (own_Iex I) (Or.inl (hw _ (List.mem_of_getElem? (i := 31) rfl))) (hw _ (List.mem_of_getElem? (i := 1) rfl)) (ty := .long) (by decide) rfl rfl (g := (mkF m 56 #[.val (.ref a), .val (.int x0)] [(.long (0 : Int64)), (.ref a)])) rfl rfl (hb hby d9_56)
    subst e1
    refine own_st st1 ?_
    replace N := Fr.snoc X1 N (own_Ina I)
    replace I := own_Is_word hw W1 I
    replace X := X1
    clear st1 X1
    show own_E p e below Qq T1 (mkF m 59 #[.val (.ref a), .val (.int x0)] [])
    exact B59 _ _ x0 g_v0 g_v1 g_v2 g_v3 (0 : Int64) g_length X I N hF
  have B36 : ∀ (T : State) (L : List Loc) (x0 : Int32) (g_v0 : Int64) (g_v1 : Int64) (g_v2 : Int64) (g_v3 : Int64) (g_word : Int64) (g_length : Int32), Stand p l e ({ frames := 3, cells := 0, slots := 0, locals := 64 } : Room) s m #[(.ref a), (.int p0)] below meth c T L 0 0 → own_I Z n0 T.heap a g_key0 g_key1 g_v0 g_v1 g_v2 g_v3 g_word g_length → Fr n0 L → w = F9_36 x0 g_key0 g_key1 g_v0 g_v1 g_v2 g_v3 g_word g_length → own_E p e below Qq T (mkF m 36 #[.val (.ref a), .val (.int x0)] []) := by
    intro T L x0 g_v0 g_v1 g_v2 g_v3 g_word g_length X I N hF
    refine own_st (fun _ => XS.aloadN X.here hx rfl (hb hby d9_36) rfl rfl) ?_
    show own_E p e below Qq T (mkF m 37 #[.val (.ref a), .val (.int x0)] [(.ref a)])
    obtain ⟨T2, X2, e2, st2⟩ := getF X hx hZ hown (host := "") (Or.inl (hw _ (List.mem_of_getElem? (i := 32) rfl))) Via.refl rfl (own_Ig_length I) (g := (mkF m 37 #[.val (.ref a), .val (.int x0)] [(.ref a)])) rfl rfl (hb hby d9_37)
    refine own_st st2 ?_
    replace I := own_tr (P := fun h => own_I Z n0 h a g_key0 g_key1 g_v0 g_v1 g_v2 g_v3 g_word g_length) e2 I
    replace X := X2
    clear st2 e2 X2
    show own_E p e below Qq T2 (mkF m 40 #[.val (.ref a), .val (.int x0)] [(.int g_length)])
    refine own_st (fun _ => XS.bipush X.here hx rfl (hb hby d9_40)) ?_
    show own_E p e below Qq T2 (mkF m 42 #[.val (.ref a), .val (.int x0)] [(.int (7 : Int32)), (.int g_length)])
    refine own_st (fun _ => XS.iand X.here hx rfl (hb hby d9_42) rfl) ?_
    show own_E p e below Qq T2 (mkF m 43 #[.val (.ref a), .val (.int x0)] [(.int (g_length &&& (7 : Int32)))])
    by_cases q43 : (g_length &&& (7 : Int32)) = (0 : Int32)
    · replace hF := hF.trans (if_pos q43)
      refine own_st (fun _ => XS.ifNo X.here hx rfl (hb hby d9_43) rfl (XT.i0_ne_f q43)) ?_
      show own_E p e below Qq T2 (mkF m 46 #[.val (.ref a), .val (.int x0)] [])
      refine own_st (fun _ => XS.aloadN X.here hx rfl (hb hby d9_46) rfl rfl) ?_
      show own_E p e below Qq T2 (mkF m 47 #[.val (.ref a), .val (.int x0)] [(.ref a)])
      refine own_st (fun _ => XS.aloadN X.here hx rfl (hb hby d9_47) rfl rfl) ?_
      show own_E p e below Qq T2 (mkF m 48 #[.val (.ref a), .val (.int x0)] [(.ref a), (.ref a)])
      obtain ⟨T3, X3, e3, st3⟩ := getF X hx hZ hown (host := "") (Or.inl (hw _ (List.mem_of_getElem? (i := 30) rfl))) Via.refl rfl (own_Ig_word I) (g := (mkF m 48 #[.val (.ref a), .val (.int x0)] [(.ref a), (.ref a)])) rfl rfl (hb hby d9_48)
      refine own_st st3 ?_
      replace I := own_tr (P := fun h => own_I Z n0 h a g_key0 g_key1 g_v0 g_v1 g_v2 g_v3 g_word g_length) e3 I
      replace X := X3
      clear st3 e3 X3
      show own_E p e below Qq T3 (mkF m 51 #[.val (.ref a), .val (.int x0)] [(.long g_word), (.ref a)])
      refine own_callP X hx hZ (z := (⟨"com/example/tomekeeper/tomekeeper/tome/SipHash", "start", "()V"⟩ : MethodName)) hown (hw _ (List.mem_of_getElem? (i := 40) rfl)) (hw _ (List.mem_of_getElem? (i := 16) rfl)) rfl (hw _ (List.mem_of_getElem? (i := 42) rfl)) (hw _ (List.mem_of_getElem? (i := 41) rfl)) (hw _ (List.mem_of_getElem? (i := 2) rfl)) (hw _ (List.mem_of_getElem? (i := 43) rfl)) (by decide) (own_Iex I) (W := 0) (argsL := [(.long g_word)]) (rest := []) (rm5 l Z a0 hw a g_word g_key0 g_key1 g_v0 g_v1 g_v2 g_v3 g_word g_length _ n0 I) (by decide) (by decide) (by decide) (by decide) rfl (by rw [hml]; rfl) (lenOf pd_5 rfl) rfl (by show 2 * 0 + _ ≤ _; exact Nat.le_of_eq rfl) (hb hby d9_51) ?_
      intro T4 L4 v X' hq
      obtain ⟨rfl, N', I'⟩ := hq
      replace I := I'
      replace N := Fr.app N N'
      replace X : Stand p l e ({ frames := 3, cells := 0, slots := 0, locals := 64 } : Room) s m #[(.ref a), (.int p0)] below meth c T4 _ 0 0 := X'
      clear X' N' I'
      show own_E p e below Qq T4 (mkF m 54 #[.val (.ref a), .val (.int x0)] [])
      exact B54 _ _ x0 (F5_0 g_word g_key0 g_key1 g_v0 g_v1 g_v2 g_v3 g_word g_length).1 (F5_0 g_word g_key0 g_key1 g_v0 g_v1 g_v2 g_v3 g_word g_length).2.1 (F5_0 g_word g_key0 g_key1 g_v0 g_v1 g_v2 g_v3 g_word g_length).2.2.1 (F5_0 g_word g_key0 g_key1 g_v0 g_v1 g_v2 g_v3 g_word g_length).2.2.2 g_word g_length X I N hF
    · replace hF := hF.trans (if_neg q43)
      refine own_st (fun _ => XS.ifYes X.here hx rfl (pc0 := 43) (pc' := 59) rfl (hb hby d9_43) rfl (XT.i0_ne_t q43) (by decide) (by decide)) ?_
      show own_E p e below Qq T2 (mkF m 59 #[.val (.ref a), .val (.int x0)] [])
      exact B59 _ _ x0 g_v0 g_v1 g_v2 g_v3 g_word g_length X I N hF
  have B26 : ∀ (T : State) (L : List Loc) (x0 : Int32) (g_v0 : Int64) (g_v1 : Int64) (g_v2 : Int64) (g_v3 : Int64) (g_word : Int64) (g_length : Int32), Stand p l e ({ frames := 3, cells := 0, slots := 0, locals := 64 } : Room) s m #[(.ref a), (.int p0)] below meth c T L 0 0 → own_I Z n0 T.heap a g_key0 g_key1 g_v0 g_v1 g_v2 g_v3 g_word g_length → Fr n0 L → w = F9_26 x0 g_key0 g_key1 g_v0 g_v1 g_v2 g_v3 g_word g_length → own_E p e below Qq T (mkF m 26 #[.val (.ref a), .val (.int x0)] []) := by
    intro T L x0 g_v0 g_v1 g_v2 g_v3 g_word g_length X I N hF
    refine own_st (fun _ => XS.aloadN X.here hx rfl (hb hby d9_26) rfl rfl) ?_
    show own_E p e below Qq T (mkF m 27 #[.val (.ref a), .val (.int x0)] [(.ref a)])
    refine own_st (fun _ => XS.dup X.here hx rfl (hb hby d9_27) rfl rfl) ?_
    show own_E p e below Qq T (mkF m 28 #[.val (.ref a), .val (.int x0)] [(.ref a), (.ref a)])
    obtain ⟨T5, X5, e5, st5⟩ := getF X hx hZ hown (host := "") (Or.inl (hw _ (List.mem_of_getElem? (i := 32) rfl))) Via.refl rfl (own_Ig_length I) (g := (mkF m 28 #[.val (.ref a), .val (.int x0)] [(.ref a), (.ref a)])) rfl rfl (hb hby d9_28)
    refine own_st st5 ?_
    replace I := own_tr (P := fun h => own_I Z n0 h a g_key0 g_key1 g_v0 g_v1 g_v2 g_v3 g_word g_length) e5 I
    replace X := X5
    clear st5 e5 X5
    show own_E p e below Qq T5 (mkF m 31 #[.val (.ref a), .val (.int x0)] [(.int g_length), (.ref a)])
    refine own_st (fun _ => XS.iconst X.here hx rfl (hb hby d9_31)) ?_
    show own_E p e below Qq T5 (mkF m 32 #[.val (.ref a), .val (.int x0)] [(.int (1 : Int32)), (.int g_length), (.ref a)])
    refine own_st (fun _ => XS.iadd X.here hx rfl (hb hby d9_32) rfl) ?_
    show own_E p e below Qq T5 (mkF m 33 #[.val (.ref a), .val (.int x0)] [(.int (g_length + (1 : Int32))), (.ref a)])
    obtain ⟨T6, h6, X6, e6, W6, st6⟩ := putF X hx hZ hown (host := "") (Or.inl (hw _ (List.mem_of_getElem? (i := 32) rfl))) Via.refl rfl (own_Ig_length I) (own_Iex I) (Or.inl (hw _ (List.mem_of_getElem? (i := 33) rfl))) (hw _ (List.mem_of_getElem? (i := 1) rfl)) (ty := .int) (by decide) rfl rfl (g := (mkF m 33 #[.val (.ref a), .val (.int x0)] [(.int (g_length + (1 : Int32))), (.ref a)])) rfl rfl (hb hby d9_33)
    subst e6
    refine own_st st6 ?_
    replace N := Fr.snoc X6 N (own_Ina I)
    replace I := own_Is_length hw W6 I
    replace X := X6
    clear st6 X6
    show own_E p e below Qq T6 (mkF m 36 #[.val (.ref a), .val (.int x0)] [])
    exact B36 _ _ x0 g_v0 g_v1 g_v2 g_v3 g_word (g_length + (1 : Int32)) X I N hF
  show own_E p e below Qq T (mkF m 0 #[.val (.ref a), .val (.int p0)] [])
  refine own_st (fun _ => XS.aloadN X.here hx rfl (hb hby d9_0) rfl rfl) ?_
  show own_E p e below Qq T (mkF m 1 #[.val (.ref a), .val (.int p0)] [(.ref a)])
  refine own_st (fun _ => XS.dup X.here hx rfl (hb hby d9_1) rfl rfl) ?_
  show own_E p e below Qq T (mkF m 2 #[.val (.ref a), .val (.int p0)] [(.ref a), (.ref a)])
  obtain ⟨T7, X7, e7, st7⟩ := getF X hx hZ hown (host := "") (Or.inl (hw _ (List.mem_of_getElem? (i := 30) rfl))) Via.refl rfl (own_Ig_word I) (g := (mkF m 2 #[.val (.ref a), .val (.int p0)] [(.ref a), (.ref a)])) rfl rfl (hb hby d9_2)
  refine own_st st7 ?_
  replace I := own_tr (P := fun h => own_I Z n0 h a g_key0 g_key1 g_v0 g_v1 g_v2 g_v3 g_word g_length) e7 I
  replace X := X7
  clear st7 e7 X7
  show own_E p e below Qq T7 (mkF m 5 #[.val (.ref a), .val (.int p0)] [(.long g_word), (.ref a)])
  refine own_st (fun _ => XS.iloadN X.here hx rfl (hb hby d9_5) rfl) ?_
  show own_E p e below Qq T7 (mkF m 6 #[.val (.ref a), .val (.int p0)] [(.int p0), (.long g_word), (.ref a)])
  refine own_st (fun _ => XT.i2l X.here hx rfl (hb hby d9_6) rfl) ?_
  show own_E p e below Qq T7 (mkF m 7 #[.val (.ref a), .val (.int p0)] [(.long (p0.toInt64)), (.long g_word), (.ref a)])
  refine own_st (fun _ => X.ldc2J hx hown (mvT hZ (hw _ (List.mem_of_getElem? (i := 52) rfl))) rfl (hb hby d9_7)) ?_
  show own_E p e below Qq T7 (mkF m 10 #[.val (.ref a), .val (.int p0)] [(.long (255 : Int64)), (.long (p0.toInt64)), (.long g_word), (.ref a)])
  refine own_st (fun _ => XT.land X.here hx rfl (hb hby d9_10) rfl) ?_
  show own_E p e below Qq T7 (mkF m 11 #[.val (.ref a), .val (.int p0)] [(.long ((p0.toInt64) &&& (255 : Int64))), (.long g_word), (.ref a)])
  refine own_st (fun _ => XS.bipush X.here hx rfl (hb hby d9_11)) ?_
  show own_E p e below Qq T7 (mkF m 13 #[.val (.ref a), .val (.int p0)] [(.int (8 : Int32)), (.long ((p0.toInt64) &&& (255 : Int64))), (.long g_word), (.ref a)])
  refine own_st (fun _ => XS.aloadN X.here hx rfl (hb hby d9_13) rfl rfl) ?_
  show own_E p e below Qq T7 (mkF m 14 #[.val (.ref a), .val (.int p0)] [(.ref a), (.int (8 : Int32)), (.long ((p0.toInt64) &&& (255 : Int64))), (.long g_word), (.ref a)])
  obtain ⟨T8, X8, e8, st8⟩ := getF X hx hZ hown (host := "") (Or.inl (hw _ (List.mem_of_getElem? (i := 32) rfl))) Via.refl rfl (own_Ig_length I) (g := (mkF m 14 #[.val (.ref a), .val (.int p0)] [(.ref a), (.int (8 : Int32)), (.long ((p0.toInt64) &&& (255 : Int64))), (.long g_word), (.ref a)])) rfl rfl (hb hby d9_14)
  refine own_st st8 ?_
  replace I := own_tr (P := fun h => own_I Z n0 h a g_key0 g_key1 g_v0 g_v1 g_v2 g_v3 g_word g_length) e8 I
  replace X := X8
  clear st8 e8 X8
  show own_E p e below Qq T8 (mkF m 17 #[.val (.ref a), .val (.int p0)] [(.int g_length), (.int (8 : Int32)), (.long ((p0.toInt64) &&& (255 : Int64))), (.long g_word), (.ref a)])
  refine own_st (fun _ => XS.bipush X.here hx rfl (hb hby d9_17)) ?_
  show own_E p e below Qq T8 (mkF m 19 #[.val (.ref a), .val (.int p0)] [(.int (7 : Int32)), (.int g_length), (.int (8 : Int32)), (.long ((p0.toInt64) &&& (255 : Int64))), (.long g_word), (.ref a)])
  refine own_st (fun _ => XS.iand X.here hx rfl (hb hby d9_19) rfl) ?_
  show own_E p e below Qq T8 (mkF m 20 #[.val (.ref a), .val (.int p0)] [(.int (g_length &&& (7 : Int32))), (.int (8 : Int32)), (.long ((p0.toInt64) &&& (255 : Int64))), (.long g_word), (.ref a)])
  refine own_st (fun _ => XS.imul X.here hx rfl (hb hby d9_20) rfl) ?_
  show own_E p e below Qq T8 (mkF m 21 #[.val (.ref a), .val (.int p0)] [(.int ((8 : Int32) * (g_length &&& (7 : Int32)))), (.long ((p0.toInt64) &&& (255 : Int64))), (.long g_word), (.ref a)])
  refine own_st (fun _ => XT.lshl X.here hx rfl (hb hby d9_21) rfl) ?_
  show own_E p e below Qq T8 (mkF m 22 #[.val (.ref a), .val (.int p0)] [(.long (((p0.toInt64) &&& (255 : Int64)) <<< (((8 : Int32) * (g_length &&& (7 : Int32))).toInt64 &&& 63))), (.long g_word), (.ref a)])
  refine own_st (fun _ => XT.lor X.here hx rfl (hb hby d9_22) rfl) ?_
  show own_E p e below Qq T8 (mkF m 23 #[.val (.ref a), .val (.int p0)] [(.long (g_word ||| (((p0.toInt64) &&& (255 : Int64)) <<< (((8 : Int32) * (g_length &&& (7 : Int32))).toInt64 &&& 63)))), (.ref a)])
  obtain ⟨T9, h9, X9, e9, W9, st9⟩ := putF X hx hZ hown (host := "") (Or.inl (hw _ (List.mem_of_getElem? (i := 30) rfl))) Via.refl rfl (own_Ig_word I) (own_Iex I) (Or.inl (hw _ (List.mem_of_getElem? (i := 31) rfl))) (hw _ (List.mem_of_getElem? (i := 1) rfl)) (ty := .long) (by decide) rfl rfl (g := (mkF m 23 #[.val (.ref a), .val (.int p0)] [(.long (g_word ||| (((p0.toInt64) &&& (255 : Int64)) <<< (((8 : Int32) * (g_length &&& (7 : Int32))).toInt64 &&& 63)))), (.ref a)])) rfl rfl (hb hby d9_23)
  subst e9
  refine own_st st9 ?_
  replace N := Fr.snoc X9 N (own_Ina I)
  replace I := own_Is_word hw W9 I
  replace X := X9
  clear st9 X9
  show own_E p e below Qq T9 (mkF m 26 #[.val (.ref a), .val (.int p0)] [])
  exact B26 _ _ p0 g_v0 g_v1 g_v2 g_v3 (g_word ||| (((p0.toInt64) &&& (255 : Int64)) <<< (((8 : Int32) * (g_length &&& (7 : Int32))).toInt64 &&& 63))) g_length X I N hF
theorem d8_0 : decode prog_118_method_4_code 0 = .ok (.aload_n 0, 1) := by decide +kernel
theorem d8_1 : decode prog_118_method_4_code 1 = .ok (.iload_n 1, 1) := by decide +kernel
theorem d8_2 : decode prog_118_method_4_code 2 = .ok (.invokevirtual 52, 3) := by decide +kernel
theorem d8_5 : decode prog_118_method_4_code 5 = .ok (.aload_n 0, 1) := by decide +kernel
theorem d8_6 : decode prog_118_method_4_code 6 = .ok (.iload_n 1, 1) := by decide +kernel
theorem d8_7 : decode prog_118_method_4_code 7 = .ok (.bipush 8, 2) := by decide +kernel
theorem d8_9 : decode prog_118_method_4_code 9 = .ok (.iushr, 1) := by decide +kernel
theorem d8_10 : decode prog_118_method_4_code 10 = .ok (.invokevirtual 52, 3) := by decide +kernel
theorem d8_13 : decode prog_118_method_4_code 13 = .ok (.aload_n 0, 1) := by decide +kernel
theorem d8_14 : decode prog_118_method_4_code 14 = .ok (.iload_n 1, 1) := by decide +kernel
theorem d8_15 : decode prog_118_method_4_code 15 = .ok (.bipush 16, 2) := by decide +kernel
theorem d8_17 : decode prog_118_method_4_code 17 = .ok (.iushr, 1) := by decide +kernel
theorem d8_18 : decode prog_118_method_4_code 18 = .ok (.invokevirtual 52, 3) := by decide +kernel
theorem d8_21 : decode prog_118_method_4_code 21 = .ok (.aload_n 0, 1) := by decide +kernel
theorem d8_22 : decode prog_118_method_4_code 22 = .ok (.iload_n 1, 1) := by decide +kernel
theorem d8_23 : decode prog_118_method_4_code 23 = .ok (.bipush 24, 2) := by decide +kernel
theorem d8_25 : decode prog_118_method_4_code 25 = .ok (.iushr, 1) := by decide +kernel
theorem d8_26 : decode prog_118_method_4_code 26 = .ok (.invokevirtual 52, 3) := by decide +kernel
theorem d8_29 : decode prog_118_method_4_code 29 = .ok (.return_, 1) := by decide +kernel
theorem ef_8 (m : MethodId) (a : Addr) (p0 : Int32) : entryFrame m #[(.ref a), (.int p0)] 2 = (mkF m 0 #[.val (.ref a), .val (.int p0)] []) := by first | (simp [entryFrame, mkF, argsToLocals, Value.category, maxLocals]; done) | rfl
def F8_29 (x0 : Int32) (g_key0 : Int64) (g_key1 : Int64) (g_v0 : Int64) (g_v1 : Int64) (g_v2 : Int64) (g_v3 : Int64) (g_word : Int64) (g_length : Int32) : Int64 × Int64 × Int64 × Int64 × Int64 × Int32 := (g_v0, g_v1, g_v2, g_v3, g_word, g_length)
def F8_21 (x0 : Int32) (g_key0 : Int64) (g_key1 : Int64) (g_v0 : Int64) (g_v1 : Int64) (g_v2 : Int64) (g_v3 : Int64) (g_word : Int64) (g_length : Int32) : Int64 × Int64 × Int64 × Int64 × Int64 × Int32 := (F8_29 x0 g_key0 g_key1 (F9_0 (XT.ushr x0 (24 : Int32)) g_key0 g_key1 g_v0 g_v1 g_v2 g_v3 g_word g_length).1 (F9_0 (XT.ushr x0 (24 : Int32)) g_key0 g_key1 g_v0 g_v1 g_v2 g_v3 g_word g_length).2.1 (F9_0 (XT.ushr x0 (24 : Int32)) g_key0 g_key1 g_v0 g_v1 g_v2 g_v3 g_word g_length).2.2.1 (F9_0 (XT.ushr x0 (24 : Int32)) g_key0 g_key1 g_v0 g_v1 g_v2 g_v3 g_word g_length).2.2.2.1 (F9_0 (XT.ushr x0 (24 : Int32)) g_key0 g_key1 g_v0 g_v1 g_v2 g_v3 g_word g_length).2.2.2.2.1 (F9_0 (XT.ushr x0 (24 : Int32)) g_key0 g_key1 g_v0 g_v1 g_v2 g_v3 g_word g_length).2.2.2.2.2)
def F8_13 (x0 : Int32) (g_key0 : Int64) (g_key1 : Int64) (g_v0 : Int64) (g_v1 : Int64) (g_v2 : Int64) (g_v3 : Int64) (g_word : Int64) (g_length : Int32) : Int64 × Int64 × Int64 × Int64 × Int64 × Int32 := (F8_21 x0 g_key0 g_key1 (F9_0 (XT.ushr x0 (16 : Int32)) g_key0 g_key1 g_v0 g_v1 g_v2 g_v3 g_word g_length).1 (F9_0 (XT.ushr x0 (16 : Int32)) g_key0 g_key1 g_v0 g_v1 g_v2 g_v3 g_word g_length).2.1 (F9_0 (XT.ushr x0 (16 : Int32)) g_key0 g_key1 g_v0 g_v1 g_v2 g_v3 g_word g_length).2.2.1 (F9_0 (XT.ushr x0 (16 : Int32)) g_key0 g_key1 g_v0 g_v1 g_v2 g_v3 g_word g_length).2.2.2.1 (F9_0 (XT.ushr x0 (16 : Int32)) g_key0 g_key1 g_v0 g_v1 g_v2 g_v3 g_word g_length).2.2.2.2.1 (F9_0 (XT.ushr x0 (16 : Int32)) g_key0 g_key1 g_v0 g_v1 g_v2 g_v3 g_word g_length).2.2.2.2.2)
def F8_5 (x0 : Int32) (g_key0 : Int64) (g_key1 : Int64) (g_v0 : Int64) (g_v1 : Int64) (g_v2 : Int64) (g_v3 : Int64) (g_word : Int64) (g_length : Int32) : Int64 × Int64 × Int64 × Int64 × Int64 × Int32 := (F8_13 x0 g_key0 g_key1 (F9_0 (XT.ushr x0 (8 : Int32)) g_key0 g_key1 g_v0 g_v1 g_v2 g_v3 g_word g_length).1 (F9_0 (XT.ushr x0 (8 : Int32)) g_key0 g_key1 g_v0 g_v1 g_v2 g_v3 g_word g_length).2.1 (F9_0 (XT.ushr x0 (8 : Int32)) g_key0 g_key1 g_v0 g_v1 g_v2 g_v3 g_word g_length).2.2.1 (F9_0 (XT.ushr x0 (8 : Int32)) g_key0 g_key1 g_v0 g_v1 g_v2 g_v3 g_word g_length).2.2.2.1 (F9_0 (XT.ushr x0 (8 : Int32)) g_key0 g_key1 g_v0 g_v1 g_v2 g_v3 g_word g_length).2.2.2.2.1 (F9_0 (XT.ushr x0 (8 : Int32)) g_key0 g_key1 g_v0 g_v1 g_v2 g_v3 g_word g_length).2.2.2.2.2)
def F8_0 (x0 : Int32) (g_key0 : Int64) (g_key1 : Int64) (g_v0 : Int64) (g_v1 : Int64) (g_v2 : Int64) (g_v3 : Int64) (g_word : Int64) (g_length : Int32) : Int64 × Int64 × Int64 × Int64 × Int64 × Int32 := (F8_5 x0 g_key0 g_key1 (F9_0 x0 g_key0 g_key1 g_v0 g_v1 g_v2 g_v3 g_word g_length).1 (F9_0 x0 g_key0 g_key1 g_v0 g_v1 g_v2 g_v3 g_word g_length).2.1 (F9_0 x0 g_key0 g_key1 g_v0 g_v1 g_v2 g_v3 g_word g_length).2.2.1 (F9_0 x0 g_key0 g_key1 g_v0 g_v1 g_v2 g_v3 g_word g_length).2.2.2.1 (F9_0 x0 g_key0 g_key1 g_v0 g_v1 g_v2 g_v3 g_word g_length).2.2.2.2.1 (F9_0 x0 g_key0 g_key1 g_v0 g_v1 g_v2 g_v3 g_word g_length).2.2.2.2.2)
set_option maxRecDepth 65536 in
set_option maxHeartbeats 40000000 in
theorem rm8 (l : Launch) (Z : State) (a0 : Array Value) (hw : ∀ d ∈ tables_1, d.before a0 Z = true) (a : Addr) (p0 : Int32) (g_key0 : Int64) (g_key1 : Int64) (g_v0 : Int64) (g_v1 : Int64) (g_v2 : Int64) (g_v3 : Int64) (g_word : Int64) (g_length : Int32) (h0 : Heap) (n0 : Nat) (I : own_I Z n0 h0 a g_key0 g_key1 g_v0 g_v1 g_v2 g_v3 g_word g_length) :
    own_M l Z (⟨"com/example/tomekeeper/tomekeeper/tome/SipHash", "addInt", "(I)V"⟩ : MethodName) prog_118_method_4_code 2 none ({ frames := 4, cells := 0, slots := 0, locals := 85 } : Room) #[(.ref a), (.int p0)] h0 (fun v h L => v = none ∧ Fr n0 L ∧ own_I Z n0 h a g_key0 g_key1 (F8_0 p0 g_key0 g_key1 g_v0 g_v1 g_v2 g_v3 g_word g_length).1 (F8_0 p0 g_key0 g_key1 g_v0 g_v1 g_v2 g_v3 g_word g_length).2.1 (F8_0 p0 g_key0 g_key1 g_v0 g_v1 g_v2 g_v3 g_word g_length).2.2.1 (F8_0 p0 g_key0 g_key1 g_v0 g_v1 g_v2 g_v3 g_word g_length).2.2.2.1 (F8_0 p0 g_key0 g_key1 g_v0 g_v1 g_v2 g_v3 g_word g_length).2.2.2.2.1 (F8_0 p0 g_key0 g_key1 g_v0 g_v1 g_v2 g_v3 g_word g_length).2.2.2.2.2) := by
  refine own_body pn_3 ?_
  intro p e s m below meth c T hx hby hml hown hZ hret hlk hnm X eT
  have N := Fr.nil n0
  replace I : own_I Z n0 T.heap a g_key0 g_key1 g_v0 g_v1 g_v2 g_v3 g_word g_length := by rw [eT]; exact I
  obtain ⟨w, hF⟩ : ∃ w, w = F8_0 p0 g_key0 g_key1 g_v0 g_v1 g_v2 g_v3 g_word g_length := ⟨_, rfl⟩
  try rw [← hF]
  generalize hQ : own_Q s (fun v h L => v = none ∧ Fr n0 L ∧ own_I Z n0 h a g_key0 g_key1 w.1 w.2.1 w.2.2.1 w.2.2.2.1 w.2.2.2.2.1 w.2.2.2.2.2) ({ frames := 4, cells := 0, slots := 0, locals := 85 } : Room).cells ({ frames := 4, cells := 0, slots := 0, locals := 85 } : Room).slots = Qq
  refine own_st (fun _ k => castTop (ef_8 m a p0) k) ?_
  clear eT
  have B29 : ∀ (T : State) (L : List Loc) (x0 : Int32) (g_v0 : Int64) (g_v1 : Int64) (g_v2 : Int64) (g_v3 : Int64) (g_word : Int64) (g_length : Int32), Stand p l e ({ frames := 4, cells := 0, slots := 0, locals := 85 } : Room) s m #[(.ref a), (.int p0)] below meth c T L 0 0 → own_I Z n0 T.heap a g_key0 g_key1 g_v0 g_v1 g_v2 g_v3 g_word g_length → Fr n0 L → w = F8_29 x0 g_key0 g_key1 g_v0 g_v1 g_v2 g_v3 g_word g_length → own_E p e below Qq T (mkF m 29 #[.val (.ref a), .val (.int x0)] []) := by
    intro T L x0 g_v0 g_v1 g_v2 g_v3 g_word g_length X I N hF
    rw [← hQ]
    exact own_retV X hx hlk hret (hb hby d8_29) (by decide) (by decide) ⟨rfl, N, (by first | (rw [hF]; exact I) | exact I)⟩
  have B21 : ∀ (T : State) (L : List Loc) (x0 : Int32) (g_v0 : Int64) (g_v1 : Int64) (g_v2 : Int64) (g_v3 : Int64) (g_word : Int64) (g_length : Int32), Stand p l e ({ frames := 4, cells := 0, slots := 0, locals := 85 } : Room) s m #[(.ref a), (.int p0)] below meth c T L 0 0 → own_I Z n0 T.heap a g_key0 g_key1 g_v0 g_v1 g_v2 g_v3 g_word g_length → Fr n0 L → w = F8_21 x0 g_key0 g_key1 g_v0 g_v1 g_v2 g_v3 g_word g_length → own_E p e below Qq T (mkF m 21 #[.val (.ref a), .val (.int x0)] []) := by
    intro T L x0 g_v0 g_v1 g_v2 g_v3 g_word g_length X I N hF
    refine own_st (fun _ => XS.aloadN X.here hx rfl (hb hby d8_21) rfl rfl) ?_
    show own_E p e below Qq T (mkF m 22 #[.val (.ref a), .val (.int x0)] [(.ref a)])
    refine own_st (fun _ => XS.iloadN X.here hx rfl (hb hby d8_22) rfl) ?_
    show own_E p e below Qq T (mkF m 23 #[.val (.ref a), .val (.int x0)] [(.int x0), (.ref a)])
    refine own_st (fun _ => XS.bipush X.here hx rfl (hb hby d8_23)) ?_
    show own_E p e below Qq T (mkF m 25 #[.val (.ref a), .val (.int x0)] [(.int (24 : Int32)), (.int x0), (.ref a)])
    refine own_st (fun _ => XT.iushr X.here hx rfl (hb hby d8_25) rfl) ?_
    show own_E p e below Qq T (mkF m 26 #[.val (.ref a), .val (.int x0)] [(.int (XT.ushr x0 (24 : Int32))), (.ref a)])
    refine own_callV X hx hZ hown (hw _ (List.mem_of_getElem? (i := 61) rfl)) (hw _ (List.mem_of_getElem? (i := 62) rfl)) (hw _ (List.mem_of_getElem? (i := 64) rfl)) (hw _ (List.mem_of_getElem? (i := 63) rfl)) (hw _ (List.mem_of_getElem? (i := 2) rfl)) (hw _ (List.mem_of_getElem? (i := 65) rfl)) (by decide) (own_Iex I) (W := 0) (argsL := [(.int (XT.ushr x0 (24 : Int32)))]) (rest := []) (rm9 l Z a0 hw a (XT.ushr x0 (24 : Int32)) g_key0 g_key1 g_v0 g_v1 g_v2 g_v3 g_word g_length _ n0 I) (by decide) (by decide) (by decide) (by decide) rfl (by rw [hml]; rfl) (lenOf pd_9 rfl) rfl (by show 2 * 0 + _ ≤ _; exact Nat.le_of_eq rfl) (hb hby d8_26) ?_
    intro T1 L1 v X' hq
    obtain ⟨rfl, N', I'⟩ := hq
    replace I := I'
    replace N := Fr.app N N'
    replace X : Stand p l e ({ frames := 4, cells := 0, slots := 0, locals := 85 } : Room) s m #[(.ref a), (.int p0)] below meth c T1 _ 0 0 := X'
    clear X' N' I'
    show own_E p e below Qq T1 (mkF m 29 #[.val (.ref a), .val (.int x0)] [])
    exact B29 _ _ x0 (F9_0 (XT.ushr x0 (24 : Int32)) g_key0 g_key1 g_v0 g_v1 g_v2 g_v3 g_word g_length).1 (F9_0 (XT.ushr x0 (24 : Int32)) g_key0 g_key1 g_v0 g_v1 g_v2 g_v3 g_word g_length).2.1 (F9_0 (XT.ushr x0 (24 : Int32)) g_key0 g_key1 g_v0 g_v1 g_v2 g_v3 g_word g_length).2.2.1 (F9_0 (XT.ushr x0 (24 : Int32)) g_key0 g_key1 g_v0 g_v1 g_v2 g_v3 g_word g_length).2.2.2.1 (F9_0 (XT.ushr x0 (24 : Int32)) g_key0 g_key1 g_v0 g_v1 g_v2 g_v3 g_word g_length).2.2.2.2.1 (F9_0 (XT.ushr x0 (24 : Int32)) g_key0 g_key1 g_v0 g_v1 g_v2 g_v3 g_word g_length).2.2.2.2.2 X I N hF
  have B13 : ∀ (T : State) (L : List Loc) (x0 : Int32) (g_v0 : Int64) (g_v1 : Int64) (g_v2 : Int64) (g_v3 : Int64) (g_word : Int64) (g_length : Int32), Stand p l e ({ frames := 4, cells := 0, slots := 0, locals := 85 } : Room) s m #[(.ref a), (.int p0)] below meth c T L 0 0 → own_I Z n0 T.heap a g_key0 g_key1 g_v0 g_v1 g_v2 g_v3 g_word g_length → Fr n0 L → w = F8_13 x0 g_key0 g_key1 g_v0 g_v1 g_v2 g_v3 g_word g_length → own_E p e below Qq T (mkF m 13 #[.val (.ref a), .val (.int x0)] []) := by
    intro T L x0 g_v0 g_v1 g_v2 g_v3 g_word g_length X I N hF
    refine own_st (fun _ => XS.aloadN X.here hx rfl (hb hby d8_13) rfl rfl) ?_
    show own_E p e below Qq T (mkF m 14 #[.val (.ref a), .val (.int x0)] [(.ref a)])
    refine own_st (fun _ => XS.iloadN X.here hx rfl (hb hby d8_14) rfl) ?_
    show own_E p e below Qq T (mkF m 15 #[.val (.ref a), .val (.int x0)] [(.int x0), (.ref a)])
    refine own_st (fun _ => XS.bipush X.here hx rfl (hb hby d8_15)) ?_
    show own_E p e below Qq T (mkF m 17 #[.val (.ref a), .val (.int x0)] [(.int (16 : Int32)), (.int x0), (.ref a)])
    refine own_st (fun _ => XT.iushr X.here hx rfl (hb hby d8_17) rfl) ?_
    show own_E p e below Qq T (mkF m 18 #[.val (.ref a), .val (.int x0)] [(.int (XT.ushr x0 (16 : Int32))), (.ref a)])
    refine own_callV X hx hZ hown (hw _ (List.mem_of_getElem? (i := 61) rfl)) (hw _ (List.mem_of_getElem? (i := 62) rfl)) (hw _ (List.mem_of_getElem? (i := 64) rfl)) (hw _ (List.mem_of_getElem? (i := 63) rfl)) (hw _ (List.mem_of_getElem? (i := 2) rfl)) (hw _ (List.mem_of_getElem? (i := 65) rfl)) (by decide) (own_Iex I) (W := 0) (argsL := [(.int (XT.ushr x0 (16 : Int32)))]) (rest := []) (rm9 l Z a0 hw a (XT.ushr x0 (16 : Int32)) g_key0 g_key1 g_v0 g_v1 g_v2 g_v3 g_word g_length _ n0 I) (by decide) (by decide) (by decide) (by decide) rfl (by rw [hml]; rfl) (lenOf pd_9 rfl) rfl (by show 2 * 0 + _ ≤ _; exact Nat.le_of_eq rfl) (hb hby d8_18) ?_
    intro T2 L2 v X' hq
    obtain ⟨rfl, N', I'⟩ := hq
    replace I := I'
    replace N := Fr.app N N'
    replace X : Stand p l e ({ frames := 4, cells := 0, slots := 0, locals := 85 } : Room) s m #[(.ref a), (.int p0)] below meth c T2 _ 0 0 := X'
    clear X' N' I'
    show own_E p e below Qq T2 (mkF m 21 #[.val (.ref a), .val (.int x0)] [])
    exact B21 _ _ x0 (F9_0 (XT.ushr x0 (16 : Int32)) g_key0 g_key1 g_v0 g_v1 g_v2 g_v3 g_word g_length).1 (F9_0 (XT.ushr x0 (16 : Int32)) g_key0 g_key1 g_v0 g_v1 g_v2 g_v3 g_word g_length).2.1 (F9_0 (XT.ushr x0 (16 : Int32)) g_key0 g_key1 g_v0 g_v1 g_v2 g_v3 g_word g_length).2.2.1 (F9_0 (XT.ushr x0 (16 : Int32)) g_key0 g_key1 g_v0 g_v1 g_v2 g_v3 g_word g_length).2.2.2.1 (F9_0 (XT.ushr x0 (16 : Int32)) g_key0 g_key1 g_v0 g_v1 g_v2 g_v3 g_word g_length).2.2.2.2.1 (F9_0 (XT.ushr x0 (16 : Int32)) g_key0 g_key1 g_v0 g_v1 g_v2 g_v3 g_word g_length).2.2.2.2.2 X I N hF
  have B5 : ∀ (T : State) (L : List Loc) (x0 : Int32) (g_v0 : Int64) (g_v1 : Int64) (g_v2 : Int64) (g_v3 : Int64) (g_word : Int64) (g_length : Int32), Stand p l e ({ frames := 4, cells := 0, slots := 0, locals := 85 } : Room) s m #[(.ref a), (.int p0)] below meth c T L 0 0 → own_I Z n0 T.heap a g_key0 g_key1 g_v0 g_v1 g_v2 g_v3 g_word g_length → Fr n0 L → w = F8_5 x0 g_key0 g_key1 g_v0 g_v1 g_v2 g_v3 g_word g_length → own_E p e below Qq T (mkF m 5 #[.val (.ref a), .val (.int x0)] []) := by
    intro T L x0 g_v0 g_v1 g_v2 g_v3 g_word g_length X I N hF
    refine own_st (fun _ => XS.aloadN X.here hx rfl (hb hby d8_5) rfl rfl) ?_
    show own_E p e below Qq T (mkF m 6 #[.val (.ref a), .val (.int x0)] [(.ref a)])
    refine own_st (fun _ => XS.iloadN X.here hx rfl (hb hby d8_6) rfl) ?_
    show own_E p e below Qq T (mkF m 7 #[.val (.ref a), .val (.int x0)] [(.int x0), (.ref a)])
    refine own_st (fun _ => XS.bipush X.here hx rfl (hb hby d8_7)) ?_
    show own_E p e below Qq T (mkF m 9 #[.val (.ref a), .val (.int x0)] [(.int (8 : Int32)), (.int x0), (.ref a)])
    refine own_st (fun _ => XT.iushr X.here hx rfl (hb hby d8_9) rfl) ?_
    show own_E p e below Qq T (mkF m 10 #[.val (.ref a), .val (.int x0)] [(.int (XT.ushr x0 (8 : Int32))), (.ref a)])
    refine own_callV X hx hZ hown (hw _ (List.mem_of_getElem? (i := 61) rfl)) (hw _ (List.mem_of_getElem? (i := 62) rfl)) (hw _ (List.mem_of_getElem? (i := 64) rfl)) (hw _ (List.mem_of_getElem? (i := 63) rfl)) (hw _ (List.mem_of_getElem? (i := 2) rfl)) (hw _ (List.mem_of_getElem? (i := 65) rfl)) (by decide) (own_Iex I) (W := 0) (argsL := [(.int (XT.ushr x0 (8 : Int32)))]) (rest := []) (rm9 l Z a0 hw a (XT.ushr x0 (8 : Int32)) g_key0 g_key1 g_v0 g_v1 g_v2 g_v3 g_word g_length _ n0 I) (by decide) (by decide) (by decide) (by decide) rfl (by rw [hml]; rfl) (lenOf pd_9 rfl) rfl (by show 2 * 0 + _ ≤ _; exact Nat.le_of_eq rfl) (hb hby d8_10) ?_
    intro T3 L3 v X' hq
    obtain ⟨rfl, N', I'⟩ := hq
    replace I := I'
    replace N := Fr.app N N'
    replace X : Stand p l e ({ frames := 4, cells := 0, slots := 0, locals := 85 } : Room) s m #[(.ref a), (.int p0)] below meth c T3 _ 0 0 := X'
    clear X' N' I'
    show own_E p e below Qq T3 (mkF m 13 #[.val (.ref a), .val (.int x0)] [])
    exact B13 _ _ x0 (F9_0 (XT.ushr x0 (8 : Int32)) g_key0 g_key1 g_v0 g_v1 g_v2 g_v3 g_word g_length).1 (F9_0 (XT.ushr x0 (8 : Int32)) g_key0 g_key1 g_v0 g_v1 g_v2 g_v3 g_word g_length).2.1 (F9_0 (XT.ushr x0 (8 : Int32)) g_key0 g_key1 g_v0 g_v1 g_v2 g_v3 g_word g_length).2.2.1 (F9_0 (XT.ushr x0 (8 : Int32)) g_key0 g_key1 g_v0 g_v1 g_v2 g_v3 g_word g_length).2.2.2.1 (F9_0 (XT.ushr x0 (8 : Int32)) g_key0 g_key1 g_v0 g_v1 g_v2 g_v3 g_word g_length).2.2.2.2.1 (F9_0 (XT.ushr x0 (8 : Int32)) g_key0 g_key1 g_v0 g_v1 g_v2 g_v3 g_word g_length).2.2.2.2.2 X I N hF
  show own_E p e below Qq T (mkF m 0 #[.val (.ref a), .val (.int p0)] [])
  refine own_st (fun _ => XS.aloadN X.here hx rfl (hb hby d8_0) rfl rfl) ?_
  show own_E p e below Qq T (mkF m 1 #[.val (.ref a), .val (.int p0)] [(.ref a)])
  refine own_st (fun _ => XS.iloadN X.here hx rfl (hb hby d8_1) rfl) ?_
  show own_E p e below Qq T (mkF m 2 #[.val (.ref a), .val (.int p0)] [(.int p0), (.ref a)])
  refine own_callV X hx hZ hown (hw _ (List.mem_of_getElem? (i := 61) rfl)) (hw _ (List.mem_of_getElem? (i := 62) rfl)) (hw _ (List.mem_of_getElem? (i := 64) rfl)) (hw _ (List.mem_of_getElem? (i := 63) rfl)) (hw _ (List.mem_of_getElem? (i := 2) rfl)) (hw _ (List.mem_of_getElem? (i := 65) rfl)) (by decide) (own_Iex I) (W := 0) (argsL := [(.int p0)]) (rest := []) (rm9 l Z a0 hw a p0 g_key0 g_key1 g_v0 g_v1 g_v2 g_v3 g_word g_length _ n0 I) (by decide) (by decide) (by decide) (by decide) rfl (by rw [hml]; rfl) (lenOf pd_9 rfl) rfl (by show 2 * 0 + _ ≤ _; exact Nat.le_of_eq rfl) (hb hby d8_2) ?_
  intro T4 L4 v X' hq
  obtain ⟨rfl, N', I'⟩ := hq
  replace I := I'
  replace N := Fr.app N N'
  replace X : Stand p l e ({ frames := 4, cells := 0, slots := 0, locals := 85 } : Room) s m #[(.ref a), (.int p0)] below meth c T4 _ 0 0 := X'
  clear X' N' I'
  show own_E p e below Qq T4 (mkF m 5 #[.val (.ref a), .val (.int p0)] [])
  exact B5 _ _ p0 (F9_0 p0 g_key0 g_key1 g_v0 g_v1 g_v2 g_v3 g_word g_length).1 (F9_0 p0 g_key0 g_key1 g_v0 g_v1 g_v2 g_v3 g_word g_length).2.1 (F9_0 p0 g_key0 g_key1 g_v0 g_v1 g_v2 g_v3 g_word g_length).2.2.1 (F9_0 p0 g_key0 g_key1 g_v0 g_v1 g_v2 g_v3 g_word g_length).2.2.2.1 (F9_0 p0 g_key0 g_key1 g_v0 g_v1 g_v2 g_v3 g_word g_length).2.2.2.2.1 (F9_0 p0 g_key0 g_key1 g_v0 g_v1 g_v2 g_v3 g_word g_length).2.2.2.2.2 X I N hF
theorem d10_0 : decode prog_118_method_5_code 0 = .ok (.aload_n 0, 1) := by decide +kernel
theorem d10_1 : decode prog_118_method_5_code 1 = .ok (.lload_n 1, 1) := by decide +kernel
theorem d10_2 : decode prog_118_method_5_code 2 = .ok (.l2i, 1) := by decide +kernel
theorem d10_3 : decode prog_118_method_5_code 3 = .ok (.invokevirtual 56, 3) := by decide +kernel
theorem d10_6 : decode prog_118_method_5_code 6 = .ok (.aload_n 0, 1) := by decide +kernel
theorem d10_7 : decode prog_118_method_5_code 7 = .ok (.lload_n 1, 1) := by decide +kernel
theorem d10_8 : decode prog_118_method_5_code 8 = .ok (.bipush 32, 2) := by decide +kernel
theorem d10_10 : decode prog_118_method_5_code 10 = .ok (.lushr, 1) := by decide +kernel
theorem d10_11 : decode prog_118_method_5_code 11 = .ok (.l2i, 1) := by decide +kernel
theorem d10_12 : decode prog_118_method_5_code 12 = .ok (.invokevirtual 56, 3) := by decide +kernel
theorem d10_15 : decode prog_118_method_5_code 15 = .ok (.return_, 1) := by decide +kernel
theorem ef_10 (m : MethodId) (a : Addr) (p0 : Int64) : entryFrame m #[(.ref a), (.long p0)] 3 = (mkF m 0 #[.val (.ref a), .val (.long p0), .second] []) := by first | (simp [entryFrame, mkF, argsToLocals, Value.category, maxLocals]; done) | rfl
def F10_15 (x0 : Int64) (g_key0 : Int64) (g_key1 : Int64) (g_v0 : Int64) (g_v1 : Int64) (g_v2 : Int64) (g_v3 : Int64) (g_word : Int64) (g_length : Int32) : Int64 × Int64 × Int64 × Int64 × Int64 × Int32 := (g_v0, g_v1, g_v2, g_v3, g_word, g_length)
def F10_6 (x0 : Int64) (g_key0 : Int64) (g_key1 : Int64) (g_v0 : Int64) (g_v1 : Int64) (g_v2 : Int64) (g_v3 : Int64) (g_word : Int64) (g_length : Int32) : Int64 × Int64 × Int64 × Int64 × Int64 × Int32 := (F10_15 x0 g_key0 g_key1 (F8_0 ((XT.ushrL x0 (32 : Int32)).toInt32) g_key0 g_key1 g_v0 g_v1 g_v2 g_v3 g_word g_length).1 (F8_0 ((XT.ushrL x0 (32 : Int32)).toInt32) g_key0 g_key1 g_v0 g_v1 g_v2 g_v3 g_word g_length).2.1 (F8_0 ((XT.ushrL x0 (32 : Int32)).toInt32) g_key0 g_key1 g_v0 g_v1 g_v2 g_v3 g_word g_length).2.2.1 (F8_0 ((XT.ushrL x0 (32 : Int32)).toInt32) g_key0 g_key1 g_v0 g_v1 g_v2 g_v3 g_word g_length).2.2.2.1 (F8_0 ((XT.ushrL x0 (32 : Int32)).toInt32) g_key0 g_key1 g_v0 g_v1 g_v2 g_v3 g_word g_length).2.2.2.2.1 (F8_0 ((XT.ushrL x0 (32 : Int32)).toInt32) g_key0 g_key1 g_v0 g_v1 g_v2 g_v3 g_word g_length).2.2.2.2.2)
def F10_0 (x0 : Int64) (g_key0 : Int64) (g_key1 : Int64) (g_v0 : Int64) (g_v1 : Int64) (g_v2 : Int64) (g_v3 : Int64) (g_word : Int64) (g_length : Int32) : Int64 × Int64 × Int64 × Int64 × Int64 × Int32 := (F10_6 x0 g_key0 g_key1 (F8_0 (x0.toInt32) g_key0 g_key1 g_v0 g_v1 g_v2 g_v3 g_word g_length).1 (F8_0 (x0.toInt32) g_key0 g_key1 g_v0 g_v1 g_v2 g_v3 g_word g_length).2.1 (F8_0 (x0.toInt32) g_key0 g_key1 g_v0 g_v1 g_v2 g_v3 g_word g_length).2.2.1 (F8_0 (x0.toInt32) g_key0 g_key1 g_v0 g_v1 g_v2 g_v3 g_word g_length).2.2.2.1 (F8_0 (x0.toInt32) g_key0 g_key1 g_v0 g_v1 g_v2 g_v3 g_word g_length).2.2.2.2.1 (F8_0 (x0.toInt32) g_key0 g_key1 g_v0 g_v1 g_v2 g_v3 g_word g_length).2.2.2.2.2)
set_option maxRecDepth 65536 in
set_option maxHeartbeats 40000000 in
theorem rm10 (l : Launch) (Z : State) (a0 : Array Value) (hw : ∀ d ∈ tables_1, d.before a0 Z = true) (a : Addr) (p0 : Int64) (g_key0 : Int64) (g_key1 : Int64) (g_v0 : Int64) (g_v1 : Int64) (g_v2 : Int64) (g_v3 : Int64) (g_word : Int64) (g_length : Int32) (h0 : Heap) (n0 : Nat) (I : own_I Z n0 h0 a g_key0 g_key1 g_v0 g_v1 g_v2 g_v3 g_word g_length) :
    own_M l Z (⟨"com/example/tomekeeper/tomekeeper/tome/SipHash", "addLong", "(J)V"⟩ : MethodName) prog_118_method_5_code 3 none ({ frames := 5, cells := 0, slots := 0, locals := 106 } : Room) #[(.ref a), (.long p0)] h0 (fun v h L => v = none ∧ Fr n0 L ∧ own_I Z n0 h a g_key0 g_key1 (F10_0 p0 g_key0 g_key1 g_v0 g_v1 g_v2 g_v3 g_word g_length).1 (F10_0 p0 g_key0 g_key1 g_v0 g_v1 g_v2 g_v3 g_word g_length).2.1 (F10_0 p0 g_key0 g_key1 g_v0 g_v1 g_v2 g_v3 g_word g_length).2.2.1 (F10_0 p0 g_key0 g_key1 g_v0 g_v1 g_v2 g_v3 g_word g_length).2.2.2.1 (F10_0 p0 g_key0 g_key1 g_v0 g_v1 g_v2 g_v3 g_word g_length).2.2.2.2.1 (F10_0 p0 g_key0 g_key1 g_v0 g_v1 g_v2 g_v3 g_word g_length).2.2.2.2.2) := by
  refine own_body pn_3 ?_
  intro p e s m below meth c T hx hby hml hown hZ hret hlk hnm X eT
  have N := Fr.nil n0
  replace I : own_I Z n0 T.heap a g_key0 g_key1 g_v0 g_v1 g_v2 g_v3 g_word g_length := by rw [eT]; exact I
  obtain ⟨w, hF⟩ : ∃ w, w = F10_0 p0 g_key0 g_key1 g_v0 g_v1 g_v2 g_v3 g_word g_length := ⟨_, rfl⟩
  try rw [← hF]
  generalize hQ : own_Q s (fun v h L => v = none ∧ Fr n0 L ∧ own_I Z n0 h a g_key0 g_key1 w.1 w.2.1 w.2.2.1 w.2.2.2.1 w.2.2.2.2.1 w.2.2.2.2.2) ({ frames := 5, cells := 0, slots := 0, locals := 106 } : Room).cells ({ frames := 5, cells := 0, slots := 0, locals := 106 } : Room).slots = Qq
  refine own_st (fun _ k => castTop (ef_10 m a p0) k) ?_
  clear eT
  have B15 : ∀ (T : State) (L : List Loc) (x0 : Int64) (g_v0 : Int64) (g_v1 : Int64) (g_v2 : Int64) (g_v3 : Int64) (g_word : Int64) (g_length : Int32), Stand p l e ({ frames := 5, cells := 0, slots := 0, locals := 106 } : Room) s m #[(.ref a), (.long p0)] below meth c T L 0 0 → own_I Z n0 T.heap a g_key0 g_key1 g_v0 g_v1 g_v2 g_v3 g_word g_length → Fr n0 L → w = F10_15 x0 g_key0 g_key1 g_v0 g_v1 g_v2 g_v3 g_word g_length → own_E p e below Qq T (mkF m 15 #[.val (.ref a), .val (.long x0), .second] []) := by
    intro T L x0 g_v0 g_v1 g_v2 g_v3 g_word g_length X I N hF
    rw [← hQ]
    exact own_retV X hx hlk hret (hb hby d10_15) (by decide) (by decide) ⟨rfl, N, (by first | (rw [hF]; exact I) | exact I)⟩
  have B6 : ∀ (T : State) (L : List Loc) (x0 : Int64) (g_v0 : Int64) (g_v1 : Int64) (g_v2 : Int64) (g_v3 : Int64) (g_word : Int64) (g_length : Int32), Stand p l e ({ frames := 5, cells := 0, slots := 0, locals := 106 } : Room) s m #[(.ref a), (.long p0)] below meth c T L 0 0 → own_I Z n0 T.heap a g_key0 g_key1 g_v0 g_v1 g_v2 g_v3 g_word g_length → Fr n0 L → w = F10_6 x0 g_key0 g_key1 g_v0 g_v1 g_v2 g_v3 g_word g_length → own_E p e below Qq T (mkF m 6 #[.val (.ref a), .val (.long x0), .second] []) := by
    intro T L x0 g_v0 g_v1 g_v2 g_v3 g_word g_length X I N hF
    refine own_st (fun _ => XS.aloadN X.here hx rfl (hb hby d10_6) rfl rfl) ?_
    show own_E p e below Qq T (mkF m 7 #[.val (.ref a), .val (.long x0), .second] [(.ref a)])
    refine own_st (fun _ => XT.lloadN X.here hx rfl (hb hby d10_7) rfl) ?_
    show own_E p e below Qq T (mkF m 8 #[.val (.ref a), .val (.long x0), .second] [(.long x0), (.ref a)])
    refine own_st (fun _ => XS.bipush X.here hx rfl (hb hby d10_8)) ?_
    show own_E p e below Qq T (mkF m 10 #[.val (.ref a), .val (.long x0), .second] [(.int (32 : Int32)), (.long x0), (.ref a)])
    refine own_st (fun _ => XT.lushr X.here hx rfl (hb hby d10_10) rfl) ?_
    show own_E p e below Qq T (mkF m 11 #[.val (.ref a), .val (.long x0), .second] [(.long (XT.ushrL x0 (32 : Int32))), (.ref a)])
    refine own_st (fun _ => XT.l2i X.here hx rfl (hb hby d10_11) rfl) ?_
    show own_E p e below Qq T (mkF m 12 #[.val (.ref a), .val (.long x0), .second] [(.int ((XT.ushrL x0 (32 : Int32)).toInt32)), (.ref a)])
    refine own_callV X hx hZ hown (hw _ (List.mem_of_getElem? (i := 72) rfl)) (hw _ (List.mem_of_getElem? (i := 57) rfl)) (hw _ (List.mem_of_getElem? (i := 59) rfl)) (hw _ (List.mem_of_getElem? (i := 58) rfl)) (hw _ (List.mem_of_getElem? (i := 2) rfl)) (hw _ (List.mem_of_getElem? (i := 60) rfl)) (by decide) (own_Iex I) (W := 0) (argsL := [(.int ((XT.ushrL x0 (32 : Int32)).toInt32))]) (rest := []) (rm8 l Z a0 hw a ((XT.ushrL x0 (32 : Int32)).toInt32) g_key0 g_key1 g_v0 g_v1 g_v2 g_v3 g_word g_length _ n0 I) (by decide) (by decide) (by decide) (by decide) rfl (by rw [hml]; rfl) (lenOf pd_9 rfl) rfl (by show 2 * 0 + _ ≤ _; exact Nat.le_of_eq rfl) (hb hby d10_12) ?_
    intro T1 L1 v X' hq
    obtain ⟨rfl, N', I'⟩ := hq
    replace I := I'
    replace N := Fr.app N N'
    replace X : Stand p l e ({ frames := 5, cells := 0, slots := 0, locals := 106 } : Room) s m #[(.ref a), (.long p0)] below meth c T1 _ 0 0 := X'
    clear X' N' I'
    show own_E p e below Qq T1 (mkF m 15 #[.val (.ref a), .val (.long x0), .second] [])
    exact B15 _ _ x0 (F8_0 ((XT.ushrL x0 (32 : Int32)).toInt32) g_key0 g_key1 g_v0 g_v1 g_v2 g_v3 g_word g_length).1 (F8_0 ((XT.ushrL x0 (32 : Int32)).toInt32) g_key0 g_key1 g_v0 g_v1 g_v2 g_v3 g_word g_length).2.1 (F8_0 ((XT.ushrL x0 (32 : Int32)).toInt32) g_key0 g_key1 g_v0 g_v1 g_v2 g_v3 g_word g_length).2.2.1 (F8_0 ((XT.ushrL x0 (32 : Int32)).toInt32) g_key0 g_key1 g_v0 g_v1 g_v2 g_v3 g_word g_length).2.2.2.1 (F8_0 ((XT.ushrL x0 (32 : Int32)).toInt32) g_key0 g_key1 g_v0 g_v1 g_v2 g_v3 g_word g_length).2.2.2.2.1 (F8_0 ((XT.ushrL x0 (32 : Int32)).toInt32) g_key0 g_key1 g_v0 g_v1 g_v2 g_v3 g_word g_length).2.2.2.2.2 X I N hF
  show own_E p e below Qq T (mkF m 0 #[.val (.ref a), .val (.long p0), .second] [])
  refine own_st (fun _ => XS.aloadN X.here hx rfl (hb hby d10_0) rfl rfl) ?_
  show own_E p e below Qq T (mkF m 1 #[.val (.ref a), .val (.long p0), .second] [(.ref a)])
  refine own_st (fun _ => XT.lloadN X.here hx rfl (hb hby d10_1) rfl) ?_
  show own_E p e below Qq T (mkF m 2 #[.val (.ref a), .val (.long p0), .second] [(.long p0), (.ref a)])
  refine own_st (fun _ => XT.l2i X.here hx rfl (hb hby d10_2) rfl) ?_
  show own_E p e below Qq T (mkF m 3 #[.val (.ref a), .val (.long p0), .second] [(.int (p0.toInt32)), (.ref a)])
  refine own_callV X hx hZ hown (hw _ (List.mem_of_getElem? (i := 72) rfl)) (hw _ (List.mem_of_getElem? (i := 57) rfl)) (hw _ (List.mem_of_getElem? (i := 59) rfl)) (hw _ (List.mem_of_getElem? (i := 58) rfl)) (hw _ (List.mem_of_getElem? (i := 2) rfl)) (hw _ (List.mem_of_getElem? (i := 60) rfl)) (by decide) (own_Iex I) (W := 0) (argsL := [(.int (p0.toInt32))]) (rest := []) (rm8 l Z a0 hw a (p0.toInt32) g_key0 g_key1 g_v0 g_v1 g_v2 g_v3 g_word g_length _ n0 I) (by decide) (by decide) (by decide) (by decide) rfl (by rw [hml]; rfl) (lenOf pd_9 rfl) rfl (by show 2 * 0 + _ ≤ _; exact Nat.le_of_eq rfl) (hb hby d10_3) ?_
  intro T2 L2 v X' hq
  obtain ⟨rfl, N', I'⟩ := hq
  replace I := I'
  replace N := Fr.app N N'
  replace X : Stand p l e ({ frames := 5, cells := 0, slots := 0, locals := 106 } : Room) s m #[(.ref a), (.long p0)] below meth c T2 _ 0 0 := X'
  clear X' N' I'
  show own_E p e below Qq T2 (mkF m 6 #[.val (.ref a), .val (.long p0), .second] [])
  exact B6 _ _ p0 (F8_0 (p0.toInt32) g_key0 g_key1 g_v0 g_v1 g_v2 g_v3 g_word g_length).1 (F8_0 (p0.toInt32) g_key0 g_key1 g_v0 g_v1 g_v2 g_v3 g_word g_length).2.1 (F8_0 (p0.toInt32) g_key0 g_key1 g_v0 g_v1 g_v2 g_v3 g_word g_length).2.2.1 (F8_0 (p0.toInt32) g_key0 g_key1 g_v0 g_v1 g_v2 g_v3 g_word g_length).2.2.2.1 (F8_0 (p0.toInt32) g_key0 g_key1 g_v0 g_v1 g_v2 g_v3 g_word g_length).2.2.2.2.1 (F8_0 (p0.toInt32) g_key0 g_key1 g_v0 g_v1 g_v2 g_v3 g_word g_length).2.2.2.2.2 X I N hF
theorem pd_4 : parseMethodDescriptor "()J" = some ⟨[], some .long⟩ := by decide +kernel
theorem d4_0 : decode prog_118_method_6_code 0 = .ok (.aload_n 0, 1) := by decide +kernel
theorem d4_1 : decode prog_118_method_6_code 1 = .ok (.aload_n 0, 1) := by decide +kernel
theorem d4_2 : decode prog_118_method_6_code 2 = .ok (.getfield 39, 3) := by decide +kernel
theorem d4_5 : decode prog_118_method_6_code 5 = .ok (.aload_n 0, 1) := by decide +kernel
theorem d4_6 : decode prog_118_method_6_code 6 = .ok (.getfield 42, 3) := by decide +kernel
theorem d4_9 : decode prog_118_method_6_code 9 = .ok (.i2l, 1) := by decide +kernel
theorem d4_10 : decode prog_118_method_6_code 10 = .ok (.bipush 56, 2) := by decide +kernel
theorem d4_12 : decode prog_118_method_6_code 12 = .ok (.lshl, 1) := by decide +kernel
theorem d4_13 : decode prog_118_method_6_code 13 = .ok (.lor, 1) := by decide +kernel
theorem d4_14 : decode prog_118_method_6_code 14 = .ok (.invokevirtual 48, 3) := by decide +kernel
theorem d4_17 : decode prog_118_method_6_code 17 = .ok (.aload_n 0, 1) := by decide +kernel
theorem d4_18 : decode prog_118_method_6_code 18 = .ok (.dup, 1) := by decide +kernel
theorem d4_19 : decode prog_118_method_6_code 19 = .ok (.getfield 31, 3) := by decide +kernel
theorem d4_22 : decode prog_118_method_6_code 22 = .ok (.ldc2_w 46, 3) := by decide +kernel
theorem d4_25 : decode prog_118_method_6_code 25 = .ok (.lxor, 1) := by decide +kernel
theorem d4_26 : decode prog_118_method_6_code 26 = .ok (.putfield 31, 3) := by decide +kernel
theorem d4_29 : decode prog_118_method_6_code 29 = .ok (.iconst 0, 1) := by decide +kernel
theorem d4_30 : decode prog_118_method_6_code 30 = .ok (.istore_n 1, 1) := by decide +kernel
theorem d4_31 : decode prog_118_method_6_code 31 = .ok (.iload_n 1, 1) := by decide +kernel
theorem d4_32 : decode prog_118_method_6_code 32 = .ok (.iconst 4, 1) := by decide +kernel
theorem d4_33 : decode prog_118_method_6_code 33 = .ok (.if_icmp .ge 13, 3) := by decide +kernel
theorem d4_36 : decode prog_118_method_6_code 36 = .ok (.aload_n 0, 1) := by decide +kernel
theorem d4_37 : decode prog_118_method_6_code 37 = .ok (.invokevirtual 59, 3) := by decide +kernel
theorem d4_40 : decode prog_118_method_6_code 40 = .ok (.iinc 1 1, 3) := by decide +kernel
theorem d4_43 : decode prog_118_method_6_code 43 = .ok (.goto (-12), 3) := by decide +kernel
theorem d4_46 : decode prog_118_method_6_code 46 = .ok (.aload_n 0, 1) := by decide +kernel
theorem d4_47 : decode prog_118_method_6_code 47 = .ok (.getfield 21, 3) := by decide +kernel
theorem d4_50 : decode prog_118_method_6_code 50 = .ok (.aload_n 0, 1) := by decide +kernel
theorem d4_51 : decode prog_118_method_6_code 51 = .ok (.getfield 26, 3) := by decide +kernel
theorem d4_54 : decode prog_118_method_6_code 54 = .ok (.lxor, 1) := by decide +kernel
theorem d4_55 : decode prog_118_method_6_code 55 = .ok (.aload_n 0, 1) := by decide +kernel
theorem d4_56 : decode prog_118_method_6_code 56 = .ok (.getfield 31, 3) := by decide +kernel
theorem d4_59 : decode prog_118_method_6_code 59 = .ok (.lxor, 1) := by decide +kernel
theorem d4_60 : decode prog_118_method_6_code 60 = .ok (.aload_n 0, 1) := by decide +kernel
theorem d4_61 : decode prog_118_method_6_code 61 = .ok (.getfield 36, 3) := by decide +kernel
theorem d4_64 : decode prog_118_method_6_code 64 = .ok (.lxor, 1) := by decide +kernel
theorem d4_65 : decode prog_118_method_6_code 65 = .ok (.lreturn, 1) := by decide +kernel
theorem ef_4 (m : MethodId) (a : Addr) : entryFrame m #[(.ref a)] 2 = (mkF m 0 #[.val (.ref a), .unset] []) := by first | (simp [entryFrame, mkF, argsToLocals, Value.category, maxLocals]; done) | rfl
def F4_31_4 (g_key0 : Int64) (g_key1 : Int64) (g_v0 : Int64) (g_v1 : Int64) (g_v2 : Int64) (g_v3 : Int64) (g_word : Int64) (g_length : Int32) : Int64 × Int64 × Int64 × Int64 × Int64 := ((((g_v0 ^^^ g_v1) ^^^ g_v2) ^^^ g_v3), g_v0, g_v1, g_v2, g_v3)
def F4_40_3 (g_key0 : Int64) (g_key1 : Int64) (g_v0 : Int64) (g_v1 : Int64) (g_v2 : Int64) (g_v3 : Int64) (g_word : Int64) (g_length : Int32) : Int64 × Int64 × Int64 × Int64 × Int64 := (F4_31_4 g_key0 g_key1 g_v0 g_v1 g_v2 g_v3 g_word g_length)
def F4_31_3 (g_key0 : Int64) (g_key1 : Int64) (g_v0 : Int64) (g_v1 : Int64) (g_v2 : Int64) (g_v3 : Int64) (g_word : Int64) (g_length : Int32) : Int64 × Int64 × Int64 × Int64 × Int64 := (F4_40_3 g_key0 g_key1 (F6_0 g_key0 g_key1 g_v0 g_v1 g_v2 g_v3 g_word g_length).1 (F6_0 g_key0 g_key1 g_v0 g_v1 g_v2 g_v3 g_word g_length).2.1 (F6_0 g_key0 g_key1 g_v0 g_v1 g_v2 g_v3 g_word g_length).2.2.1 (F6_0 g_key0 g_key1 g_v0 g_v1 g_v2 g_v3 g_word g_length).2.2.2 g_word g_length)
def F4_40_2 (g_key0 : Int64) (g_key1 : Int64) (g_v0 : Int64) (g_v1 : Int64) (g_v2 : Int64) (g_v3 : Int64) (g_word : Int64) (g_length : Int32) : Int64 × Int64 × Int64 × Int64 × Int64 := (F4_31_3 g_key0 g_key1 g_v0 g_v1 g_v2 g_v3 g_word g_length)
def F4_31_2 (g_key0 : Int64) (g_key1 : Int64) (g_v0 : Int64) (g_v1 : Int64) (g_v2 : Int64) (g_v3 : Int64) (g_word : Int64) (g_length : Int32) : Int64 × Int64 × Int64 × Int64 × Int64 := (F4_40_2 g_key0 g_key1 (F6_0 g_key0 g_key1 g_v0 g_v1 g_v2 g_v3 g_word g_length).1 (F6_0 g_key0 g_key1 g_v0 g_v1 g_v2 g_v3 g_word g_length).2.1 (F6_0 g_key0 g_key1 g_v0 g_v1 g_v2 g_v3 g_word g_length).2.2.1 (F6_0 g_key0 g_key1 g_v0 g_v1 g_v2 g_v3 g_word g_length).2.2.2 g_word g_length)
def F4_40_1 (g_key0 : Int64) (g_key1 : Int64) (g_v0 : Int64) (g_v1 : Int64) (g_v2 : Int64) (g_v3 : Int64) (g_word : Int64) (g_length : Int32) : Int64 × Int64 × Int64 × Int64 × Int64 := (F4_31_2 g_key0 g_key1 g_v0 g_v1 g_v2 g_v3 g_word g_length)
def F4_31_1 (g_key0 : Int64) (g_key1 : Int64) (g_v0 : Int64) (g_v1 : Int64) (g_v2 : Int64) (g_v3 : Int64) (g_word : Int64) (g_length : Int32) : Int64 × Int64 × Int64 × Int64 × Int64 := (F4_40_1 g_key0 g_key1 (F6_0 g_key0 g_key1 g_v0 g_v1 g_v2 g_v3 g_word g_length).1 (F6_0 g_key0 g_key1 g_v0 g_v1 g_v2 g_v3 g_word g_length).2.1 (F6_0 g_key0 g_key1 g_v0 g_v1 g_v2 g_v3 g_word g_length).2.2.1 (F6_0 g_key0 g_key1 g_v0 g_v1 g_v2 g_v3 g_word g_length).2.2.2 g_word g_length)
def F4_40_0 (g_key0 : Int64) (g_key1 : Int64) (g_v0 : Int64) (g_v1 : Int64) (g_v2 : Int64) (g_v3 : Int64) (g_word : Int64) (g_length : Int32) : Int64 × Int64 × Int64 × Int64 × Int64 := (F4_31_1 g_key0 g_key1 g_v0 g_v1 g_v2 g_v3 g_word g_length)
def F4_31_0 (g_key0 : Int64) (g_key1 : Int64) (g_v0 : Int64) (g_v1 : Int64) (g_v2 : Int64) (g_v3 : Int64) (g_word : Int64) (g_length : Int32) : Int64 × Int64 × Int64 × Int64 × Int64 := (F4_40_0 g_key0 g_key1 (F6_0 g_key0 g_key1 g_v0 g_v1 g_v2 g_v3 g_word g_length).1 (F6_0 g_key0 g_key1 g_v0 g_v1 g_v2 g_v3 g_word g_length).2.1 (F6_0 g_key0 g_key1 g_v0 g_v1 g_v2 g_v3 g_word g_length).2.2.1 (F6_0 g_key0 g_key1 g_v0 g_v1 g_v2 g_v3 g_word g_length).2.2.2 g_word g_length)
def F4_29 (g_key0 : Int64) (g_key1 : Int64) (g_v0 : Int64) (g_v1 : Int64) (g_v2 : Int64) (g_v3 : Int64) (g_word : Int64) (g_length : Int32) : Int64 × Int64 × Int64 × Int64 × Int64 := (F4_31_0 g_key0 g_key1 g_v0 g_v1 g_v2 g_v3 g_word g_length)
def F4_17 (g_key0 : Int64) (g_key1 : Int64) (g_v0 : Int64) (g_v1 : Int64) (g_v2 : Int64) (g_v3 : Int64) (g_word : Int64) (g_length : Int32) : Int64 × Int64 × Int64 × Int64 × Int64 := (F4_29 g_key0 g_key1 g_v0 g_v1 (g_v2 ^^^ (255 : Int64)) g_v3 g_word g_length)
def F4_0 (g_key0 : Int64) (g_key1 : Int64) (g_v0 : Int64) (g_v1 : Int64) (g_v2 : Int64) (g_v3 : Int64) (g_word : Int64) (g_length : Int32) : Int64 × Int64 × Int64 × Int64 × Int64 := (F4_17 g_key0 g_key1 (F5_0 (g_word ||| ((g_length.toInt64) <<< ((56 : Int32).toInt64 &&& 63))) g_key0 g_key1 g_v0 g_v1 g_v2 g_v3 g_word g_length).1 (F5_0 (g_word ||| ((g_length.toInt64) <<< ((56 : Int32).toInt64 &&& 63))) g_key0 g_key1 g_v0 g_v1 g_v2 g_v3 g_word g_length).2.1 (F5_0 (g_word ||| ((g_length.toInt64) <<< ((56 : Int32).toInt64 &&& 63))) g_key0 g_key1 g_v0 g_v1 g_v2 g_v3 g_word g_length).2.2.1 (F5_0 (g_word ||| ((g_length.toInt64) <<< ((56 : Int32).toInt64 &&& 63))) g_key0 g_key1 g_v0 g_v1 g_v2 g_v3 g_word g_length).2.2.2 g_word g_length)
set_option maxRecDepth 65536 in
set_option maxHeartbeats 40000000 in
theorem rm4 (l : Launch) (Z : State) (a0 : Array Value) (hw : ∀ d ∈ tables_1, d.before a0 Z = true) (a : Addr) (g_key0 : Int64) (g_key1 : Int64) (g_v0 : Int64) (g_v1 : Int64) (g_v2 : Int64) (g_v3 : Int64) (g_word : Int64) (g_length : Int32) (h0 : Heap) (n0 : Nat) (I : own_I Z n0 h0 a g_key0 g_key1 g_v0 g_v1 g_v2 g_v3 g_word g_length) :
    own_M l Z (⟨"com/example/tomekeeper/tomekeeper/tome/SipHash", "finish", "()J"⟩ : MethodName) prog_118_method_6_code 2 (some .long) ({ frames := 3, cells := 0, slots := 0, locals := 64 } : Room) #[(.ref a)] h0 (fun v h L => v = some (.long (F4_0 g_key0 g_key1 g_v0 g_v1 g_v2 g_v3 g_word g_length).1) ∧ Fr n0 L ∧ own_I Z n0 h a g_key0 g_key1 (F4_0 g_key0 g_key1 g_v0 g_v1 g_v2 g_v3 g_word g_length).2.1 (F4_0 g_key0 g_key1 g_v0 g_v1 g_v2 g_v3 g_word g_length).2.2.1 (F4_0 g_key0 g_key1 g_v0 g_v1 g_v2 g_v3 g_word g_length).2.2.2.1 (F4_0 g_key0 g_key1 g_v0 g_v1 g_v2 g_v3 g_word g_length).2.2.2.2 g_word g_length) := by
  refine own_body pn_3 ?_
  intro p e s m below meth c T hx hby hml hown hZ hret hlk hnm X eT
  have N := Fr.nil n0
  replace I : own_I Z n0 T.heap a g_key0 g_key1 g_v0 g_v1 g_v2 g_v3 g_word g_length := by rw [eT]; exact I
  obtain ⟨w, hF⟩ : ∃ w, w = F4_0 g_key0 g_key1 g_v0 g_v1 g_v2 g_v3 g_word g_length := ⟨_, rfl⟩
  try rw [← hF]
  generalize hQ : own_Q s (fun v h L => v = some (.long w.1) ∧ Fr n0 L ∧ own_I Z n0 h a g_key0 g_key1 w.2.1 w.2.2.1 w.2.2.2.1 w.2.2.2.2 g_word g_length) ({ frames := 3, cells := 0, slots := 0, locals := 64 } : Room).cells ({ frames := 3, cells := 0, slots := 0, locals := 64 } : Room).slots = Qq
  refine own_st (fun _ k => castTop (ef_4 m a) k) ?_
  clear eT
  have B31_4 : ∀ (T : State) (L : List Loc) (g_v0 : Int64) (g_v1 : Int64) (g_v2 : Int64) (g_v3 : Int64), Stand p l e ({ frames := 3, cells := 0, slots := 0, locals := 64 } : Room) s m #[(.ref a)] below meth c T L 0 0 → own_I Z n0 T.heap a g_key0 g_key1 g_v0 g_v1 g_v2 g_v3 g_word g_length → Fr n0 L → w = F4_31_4 g_key0 g_key1 g_v0 g_v1 g_v2 g_v3 g_word g_length → own_E p e below Qq T (mkF m 31 #[.val (.ref a), .val (.int (4 : Int32))] []) := by
    intro T L g_v0 g_v1 g_v2 g_v3 X I N hF
    refine own_st (fun _ => XS.iloadN X.here hx rfl (hb hby d4_31) rfl) ?_
    show own_E p e below Qq T (mkF m 32 #[.val (.ref a), .val (.int (4 : Int32))] [(.int (4 : Int32))])
    refine own_st (fun _ => XS.iconst X.here hx rfl (hb hby d4_32)) ?_
    show own_E p e below Qq T (mkF m 33 #[.val (.ref a), .val (.int (4 : Int32))] [(.int (4 : Int32)), (.int (4 : Int32))])
    refine own_st (fun _ => XS.icmpYes X.here hx rfl (pc0 := 33) (pc' := 46) rfl (hb hby d4_33) rfl (XT.ii_ge_t (by decide)) (by decide) (by decide)) ?_
    show own_E p e below Qq T (mkF m 46 #[.val (.ref a), .val (.int (4 : Int32))] [])
    refine own_st (fun _ => XS.aloadN X.here hx rfl (hb hby d4_46) rfl rfl) ?_
    show own_E p e below Qq T (mkF m 47 #[.val (.ref a), .val (.int (4 : Int32))] [(.ref a)])
    obtain ⟨T1, X1, e1, st1⟩ := getF X hx hZ hown (host := "") (Or.inl (hw _ (List.mem_of_getElem? (i := 19) rfl))) Via.refl rfl (own_Ig_v0 I) (g := (mkF m 47 #[.val (.ref a), .val (.int (4 : Int32))] [(.ref a)])) rfl rfl (hb hby d4_47)
    refine own_st st1 ?_
    replace I := own_tr (P := fun h => own_I Z n0 h a g_key0 g_key1 g_v0 g_v1 g_v2 g_v3 g_word g_length) e1 I
    replace X := X1
    clear st1 e1 X1
    show own_E p e below Qq T1 (mkF m 50 #[.val (.ref a), .val (.int (4 : Int32))] [(.long g_v0)])
    refine own_st (fun _ => XS.aloadN X.here hx rfl (hb hby d4_50) rfl rfl) ?_
    show own_E p e below Qq T1 (mkF m 51 #[.val (.ref a), .val (.int (4 : Int32))] [(.ref a), (.long g_v0)])
    obtain ⟨T2, X2, e2, st2⟩ := getF X hx hZ hown (host := "") (Or.inl (hw _ (List.mem_of_getElem? (i := 22) rfl))) Via.refl rfl (own_Ig_v1 I) (g := (mkF m 51 #[.val (.ref a), .val (.int (4 : Int32))] [(.ref a), (.long g_v0)])) rfl rfl (hb hby d4_51)
    refine own_st st2 ?_
    replace I := own_tr (P := fun h => own_I Z n0 h a g_key0 g_key1 g_v0 g_v1 g_v2 g_v3 g_word g_length) e2 I
    replace X := X2
    clear st2 e2 X2
    show own_E p e below Qq T2 (mkF m 54 #[.val (.ref a), .val (.int (4 : Int32))] [(.long g_v1), (.long g_v0)])
    refine own_st (fun _ => XT.lxor X.here hx rfl (hb hby d4_54) rfl) ?_
    show own_E p e below Qq T2 (mkF m 55 #[.val (.ref a), .val (.int (4 : Int32))] [(.long (g_v0 ^^^ g_v1))])
    refine own_st (fun _ => XS.aloadN X.here hx rfl (hb hby d4_55) rfl rfl) ?_
    show own_E p e below Qq T2 (mkF m 56 #[.val (.ref a), .val (.int (4 : Int32))] [(.ref a), (.long (g_v0 ^^^ g_v1))])
    obtain ⟨T3, X3, e3, st3⟩ := getF X hx hZ hown (host := "") (Or.inl (hw _ (List.mem_of_getElem? (i := 25) rfl))) Via.refl rfl (own_Ig_v2 I) (g := (mkF m 56 #[.val (.ref a), .val (.int (4 : Int32))] [(.ref a), (.long (g_v0 ^^^ g_v1))])) rfl rfl (hb hby d4_56)
    refine own_st st3 ?_
    replace I := own_tr (P := fun h => own_I Z n0 h a g_key0 g_key1 g_v0 g_v1 g_v2 g_v3 g_word g_length) e3 I
    replace X := X3
    clear st3 e3 X3
    show own_E p e below Qq T3 (mkF m 59 #[.val (.ref a), .val (.int (4 : Int32))] [(.long g_v2), (.long (g_v0 ^^^ g_v1))])
    refine own_st (fun _ => XT.lxor X.here hx rfl (hb hby d4_59) rfl) ?_
    show own_E p e below Qq T3 (mkF m 60 #[.val (.ref a), .val (.int (4 : Int32))] [(.long ((g_v0 ^^^ g_v1) ^^^ g_v2))])
    refine own_st (fun _ => XS.aloadN X.here hx rfl (hb hby d4_60) rfl rfl) ?_
    show own_E p e below Qq T3 (mkF m 61 #[.val (.ref a), .val (.int (4 : Int32))] [(.ref a), (.long ((g_v0 ^^^ g_v1) ^^^ g_v2))])
    obtain ⟨T4, X4, e4, st4⟩ := getF X hx hZ hown (host := "") (Or.inl (hw _ (List.mem_of_getElem? (i := 28) rfl))) Via.refl rfl (own_Ig_v3 I) (g := (mkF m 61 #[.val (.ref a), .val (.int (4 : Int32))] [(.ref a), (.long ((g_v0 ^^^ g_v1) ^^^ g_v2))])) rfl rfl (hb hby d4_61)
    refine own_st st4 ?_
    replace I := own_tr (P := fun h => own_I Z n0 h a g_key0 g_key1 g_v0 g_v1 g_v2 g_v3 g_word g_length) e4 I
    replace X := X4
    clear st4 e4 X4
    show own_E p e below Qq T4 (mkF m 64 #[.val (.ref a), .val (.int (4 : Int32))] [(.long g_v3), (.long ((g_v0 ^^^ g_v1) ^^^ g_v2))])
    refine own_st (fun _ => XT.lxor X.here hx rfl (hb hby d4_64) rfl) ?_
    show own_E p e below Qq T4 (mkF m 65 #[.val (.ref a), .val (.int (4 : Int32))] [(.long (((g_v0 ^^^ g_v1) ^^^ g_v2) ^^^ g_v3))])
    rw [← hQ]
    exact own_retJ X hx hlk hret (hb hby d4_65) (by decide) (by decide) ⟨by (rw [hF]; try rfl), N, (by first | (rw [hF]; exact I) | exact I)⟩
  have B40_3 : ∀ (T : State) (L : List Loc) (g_v0 : Int64) (g_v1 : Int64) (g_v2 : Int64) (g_v3 : Int64), Stand p l e ({ frames := 3, cells := 0, slots := 0, locals := 64 } : Room) s m #[(.ref a)] below meth c T L 0 0 → own_I Z n0 T.heap a g_key0 g_key1 g_v0 g_v1 g_v2 g_v3 g_word g_length → Fr n0 L → w = F4_40_3 g_key0 g_key1 g_v0 g_v1 g_v2 g_v3 g_word g_length → own_E p e below Qq T (mkF m 40 #[.val (.ref a), .val (.int (3 : Int32))] []) := by
    intro T L g_v0 g_v1 g_v2 g_v3 X I N hF
    refine own_st (fun _ => XS.iinc X.here hx rfl (hb hby d4_40) rfl (l' := #[.val (.ref a), .val (.int (4 : Int32))]) rfl) ?_
    show own_E p e below Qq T (mkF m 43 #[.val (.ref a), .val (.int (4 : Int32))] [])
    refine own_st (fun _ => XS.goto X.here hx rfl (pc0 := 43) (pc' := 31) rfl (hb hby d4_43) (by decide) (by decide)) ?_
    show own_E p e below Qq T (mkF m 31 #[.val (.ref a), .val (.int (4 : Int32))] [])
    exact B31_4 _ _ g_v0 g_v1 g_v2 g_v3 X I N hF
  have B31_3 : ∀ (T : State) (L : List Loc) (g_v0 : Int64) (g_v1 : Int64) (g_v2 : Int64) (g_v3 : Int64), Stand p l e ({ frames := 3, cells := 0, slots := 0, locals := 64 } : Room) s m #[(.ref a)] below meth c T L 0 0 → own_I Z n0 T.heap a g_key0 g_key1 g_v0 g_v1 g_v2 g_v3 g_word g_length → Fr n0 L → w = F4_31_3 g_key0 g_key1 g_v0 g_v1 g_v2 g_v3 g_word g_length → own_E p e below Qq T (mkF m 31 #[.val (.ref a), .val (.int (3 : Int32))] []) := by
    intro T L g_v0 g_v1 g_v2 g_v3 X I N hF
    refine own_st (fun _ => XS.iloadN X.here hx rfl (hb hby d4_31) rfl) ?_
    show own_E p e below Qq T (mkF m 32 #[.val (.ref a), .val (.int (3 : Int32))] [(.int (3 : Int32))])
    refine own_st (fun _ => XS.iconst X.here hx rfl (hb hby d4_32)) ?_
    show own_E p e below Qq T (mkF m 33 #[.val (.ref a), .val (.int (3 : Int32))] [(.int (4 : Int32)), (.int (3 : Int32))])
    refine own_st (fun _ => XS.icmpNo X.here hx rfl (hb hby d4_33) rfl (XT.ii_ge_f (by decide))) ?_
    show own_E p e below Qq T (mkF m 36 #[.val (.ref a), .val (.int (3 : Int32))] [])
    refine own_st (fun _ => XS.aloadN X.here hx rfl (hb hby d4_36) rfl rfl) ?_
    show own_E p e below Qq T (mkF m 37 #[.val (.ref a), .val (.int (3 : Int32))] [(.ref a)])
    refine own_callP X hx hZ (z := (⟨"com/example/tomekeeper/tomekeeper/tome/SipHash", "start", "()V"⟩ : MethodName)) hown (hw _ (List.mem_of_getElem? (i := 44) rfl)) (hw _ (List.mem_of_getElem? (i := 16) rfl)) rfl (hw _ (List.mem_of_getElem? (i := 46) rfl)) (hw _ (List.mem_of_getElem? (i := 45) rfl)) (hw _ (List.mem_of_getElem? (i := 2) rfl)) (hw _ (List.mem_of_getElem? (i := 47) rfl)) (by decide) (own_Iex I) (W := 0) (argsL := []) (rest := []) (rm6 l Z a0 hw a g_key0 g_key1 g_v0 g_v1 g_v2 g_v3 g_word g_length _ n0 I) (by decide) (by decide) (by decide) (by decide) rfl (by rw [hml]; rfl) (lenOf pd_3 rfl) rfl (by show 2 * 0 + _ ≤ _; exact Nat.le_of_eq rfl) (hb hby d4_37) ?_
    intro T5 L5 v X' hq
    obtain ⟨rfl, N', I'⟩ := hq
    replace I := I'
    replace N := Fr.app N N'
    replace X : Stand p l e ({ frames := 3, cells := 0, slots := 0, locals := 64 } : Room) s m #[(.ref a)] below meth c T5 _ 0 0 := X'
    clear X' N' I'
    show own_E p e below Qq T5 (mkF m 40 #[.val (.ref a), .val (.int (3 : Int32))] [])
    exact B40_3 _ _ (F6_0 g_key0 g_key1 g_v0 g_v1 g_v2 g_v3 g_word g_length).1 (F6_0 g_key0 g_key1 g_v0 g_v1 g_v2 g_v3 g_word g_length).2.1 (F6_0 g_key0 g_key1 g_v0 g_v1 g_v2 g_v3 g_word g_length).2.2.1 (F6_0 g_key0 g_key1 g_v0 g_v1 g_v2 g_v3 g_word g_length).2.2.2 X I N hF
  have B40_2 : ∀ (T : State) (L : List Loc) (g_v0 : Int64) (g_v1 : Int64) (g_v2 : Int64) (g_v3 : Int64), Stand p l e ({ frames := 3, cells := 0, slots := 0, locals := 64 } : Room) s m #[(.ref a)] below meth c T L 0 0 → own_I Z n0 T.heap a g_key0 g_key1 g_v0 g_v1 g_v2 g_v3 g_word g_length → Fr n0 L → w = F4_40_2 g_key0 g_key1 g_v0 g_v1 g_v2 g_v3 g_word g_length → own_E p e below Qq T (mkF m 40 #[.val (.ref a), .val (.int (2 : Int32))] []) := by
    intro T L g_v0 g_v1 g_v2 g_v3 X I N hF
    refine own_st (fun _ => XS.iinc X.here hx rfl (hb hby d4_40) rfl (l' := #[.val (.ref a), .val (.int (3 : Int32))]) rfl) ?_
    show own_E p e below Qq T (mkF m 43 #[.val (.ref a), .val (.int (3 : Int32))] [])
    refine own_st (fun _ => XS.goto X.here hx rfl (pc0 := 43) (pc' := 31) rfl (hb hby d4_43) (by decide) (by decide)) ?_
    show own_E p e below Qq T (mkF m 31 #[.val (.ref a), .val (.int (3 : Int32))] [])
    exact B31_3 _ _ g_v0 g_v1 g_v2 g_v3 X I N hF
  have B31_2 : ∀ (T : State) (L : List Loc) (g_v0 : Int64) (g_v1 : Int64) (g_v2 : Int64) (g_v3 : Int64), Stand p l e ({ frames := 3, cells := 0, slots := 0, locals := 64 } : Room) s m #[(.ref a)] below meth c T L 0 0 → own_I Z n0 T.heap a g_key0 g_key1 g_v0 g_v1 g_v2 g_v3 g_word g_length → Fr n0 L → w = F4_31_2 g_key0 g_key1 g_v0 g_v1 g_v2 g_v3 g_word g_length → own_E p e below Qq T (mkF m 31 #[.val (.ref a), .val (.int (2 : Int32))] []) := by
    intro T L g_v0 g_v1 g_v2 g_v3 X I N hF
    refine own_st (fun _ => XS.iloadN X.here hx rfl (hb hby d4_31) rfl) ?_
    show own_E p e below Qq T (mkF m 32 #[.val (.ref a), .val (.int (2 : Int32))] [(.int (2 : Int32))])
    refine own_st (fun _ => XS.iconst X.here hx rfl (hb hby d4_32)) ?_
    show own_E p e below Qq T (mkF m 33 #[.val (.ref a), .val (.int (2 : Int32))] [(.int (4 : Int32)), (.int (2 : Int32))])
    refine own_st (fun _ => XS.icmpNo X.here hx rfl (hb hby d4_33) rfl (XT.ii_ge_f (by decide))) ?_
    show own_E p e below Qq T (mkF m 36 #[.val (.ref a), .val (.int (2 : Int32))] [])
    refine own_st (fun _ => XS.aloadN X.here hx rfl (hb hby d4_36) rfl rfl) ?_
    show own_E p e below Qq T (mkF m 37 #[.val (.ref a), .val (.int (2 : Int32))] [(.ref a)])
    refine own_callP X hx hZ (z := (⟨"com/example/tomekeeper/tomekeeper/tome/SipHash", "start", "()V"⟩ : MethodName)) hown (hw _ (List.mem_of_getElem? (i := 44) rfl)) (hw _ (List.mem_of_getElem? (i := 16) rfl)) rfl (hw _ (List.mem_of_getElem? (i := 46) rfl)) (hw _ (List.mem_of_getElem? (i := 45) rfl)) (hw _ (List.mem_of_getElem? (i := 2) rfl)) (hw _ (List.mem_of_getElem? (i := 47) rfl)) (by decide) (own_Iex I) (W := 0) (argsL := []) (rest := []) (rm6 l Z a0 hw a g_key0 g_key1 g_v0 g_v1 g_v2 g_v3 g_word g_length _ n0 I) (by decide) (by decide) (by decide) (by decide) rfl (by rw [hml]; rfl) (lenOf pd_3 rfl) rfl (by show 2 * 0 + _ ≤ _; exact Nat.le_of_eq rfl) (hb hby d4_37) ?_
    intro T6 L6 v X' hq
    obtain ⟨rfl, N', I'⟩ := hq
    replace I := I'
    replace N := Fr.app N N'
    replace X : Stand p l e ({ frames := 3, cells := 0, slots := 0, locals := 64 } : Room) s m #[(.ref a)] below meth c T6 _ 0 0 := X'
    clear X' N' I'
    show own_E p e below Qq T6 (mkF m 40 #[.val (.ref a), .val (.int (2 : Int32))] [])
    exact B40_2 _ _ (F6_0 g_key0 g_key1 g_v0 g_v1 g_v2 g_v3 g_word g_length).1 (F6_0 g_key0 g_key1 g_v0 g_v1 g_v2 g_v3 g_word g_length).2.1 (F6_0 g_key0 g_key1 g_v0 g_v1 g_v2 g_v3 g_word g_length).2.2.1 (F6_0 g_key0 g_key1 g_v0 g_v1 g_v2 g_v3 g_word g_length).2.2.2 X I N hF
  have B40_1 : ∀ (T : State) (L : List Loc) (g_v0 : Int64) (g_v1 : Int64) (g_v2 : Int64) (g_v3 : Int64), Stand p l e ({ frames := 3, cells := 0, slots := 0, locals := 64 } : Room) s m #[(.ref a)] below meth c T L 0 0 → own_I Z n0 T.heap a g_key0 g_key1 g_v0 g_v1 g_v2 g_v3 g_word g_length → Fr n0 L → w = F4_40_1 g_key0 g_key1 g_v0 g_v1 g_v2 g_v3 g_word g_length → own_E p e below Qq T (mkF m 40 #[.val (.ref a), .val (.int (1 : Int32))] []) := by
    intro T L g_v0 g_v1 g_v2 g_v3 X I N hF
    refine own_st (fun _ => XS.iinc X.here hx rfl (hb hby d4_40) rfl (l' := #[.val (.ref a), .val (.int (2 : Int32))]) rfl) ?_
    show own_E p e below Qq T (mkF m 43 #[.val (.ref a), .val (.int (2 : Int32))] [])
    refine own_st (fun _ => XS.goto X.here hx rfl (pc0 := 43) (pc' := 31) rfl (hb hby d4_43) (by decide) (by decide)) ?_
    show own_E p e below Qq T (mkF m 31 #[.val (.ref a), .val (.int (2 : Int32))] [])
    exact B31_2 _ _ g_v0 g_v1 g_v2 g_v3 X I N hF
  have B31_1 : ∀ (T : State) (L : List Loc) (g_v0 : Int64) (g_v1 : Int64) (g_v2 : Int64) (g_v3 : Int64), Stand p l e ({ frames := 3, cells := 0, slots := 0, locals := 64 } : Room) s m #[(.ref a)] below meth c T L 0 0 → own_I Z n0 T.heap a g_key0 g_key1 g_v0 g_v1 g_v2 g_v3 g_word g_length → Fr n0 L → w = F4_31_1 g_key0 g_key1 g_v0 g_v1 g_v2 g_v3 g_word g_length → own_E p e below Qq T (mkF m 31 #[.val (.ref a), .val (.int (1 : Int32))] []) := by
    intro T L g_v0 g_v1 g_v2 g_v3 X I N hF
    refine own_st (fun _ => XS.iloadN X.here hx rfl (hb hby d4_31) rfl) ?_
    show own_E p e below Qq T (mkF m 32 #[.val (.ref a), .val (.int (1 : Int32))] [(.int (1 : Int32))])
    refine own_st (fun _ => XS.iconst X.here hx rfl (hb hby d4_32)) ?_
    show own_E p e below Qq T (mkF m 33 #[.val (.ref a), .val (.int (1 : Int32))] [(.int (4 : Int32)), (.int (1 : Int32))])
    refine own_st (fun _ => XS.icmpNo X.here hx rfl (hb hby d4_33) rfl (XT.ii_ge_f (by decide))) ?_
    show own_E p e below Qq T (mkF m 36 #[.val (.ref a), .val (.int (1 : Int32))] [])
    refine own_st (fun _ => XS.aloadN X.here hx rfl (hb hby d4_36) rfl rfl) ?_
    show own_E p e below Qq T (mkF m 37 #[.val (.ref a), .val (.int (1 : Int32))] [(.ref a)])
    refine own_callP X hx hZ (z := (⟨"com/example/tomekeeper/tomekeeper/tome/SipHash", "start", "()V"⟩ : MethodName)) hown (hw _ (List.mem_of_getElem? (i := 44) rfl)) (hw _ (List.mem_of_getElem? (i := 16) rfl)) rfl (hw _ (List.mem_of_getElem? (i := 46) rfl)) (hw _ (List.mem_of_getElem? (i := 45) rfl)) (hw _ (List.mem_of_getElem? (i := 2) rfl)) (hw _ (List.mem_of_getElem? (i := 47) rfl)) (by decide) (own_Iex I) (W := 0) (argsL := []) (rest := []) (rm6 l Z a0 hw a g_key0 g_key1 g_v0 g_v1 g_v2 g_v3 g_word g_length _ n0 I) (by decide) (by decide) (by decide) (by decide) rfl (by rw [hml]; rfl) (lenOf pd_3 rfl) rfl (by show 2 * 0 + _ ≤ _; exact Nat.le_of_eq rfl) (hb hby d4_37) ?_
    intro T7 L7 v X' hq
    obtain ⟨rfl, N', I'⟩ := hq
    replace I := I'
    replace N := Fr.app N N'
    replace X : Stand p l e ({ frames := 3, cells := 0, slots := 0, locals := 64 } : Room) s m #[(.ref a)] below meth c T7 _ 0 0 := X'
    clear X' N' I'
    show own_E p e below Qq T7 (mkF m 40 #[.val (.ref a), .val (.int (1 : Int32))] [])
    exact B40_1 _ _ (F6_0 g_key0 g_key1 g_v0 g_v1 g_v2 g_v3 g_word g_length).1 (F6_0 g_key0 g_key1 g_v0 g_v1 g_v2 g_v3 g_word g_length).2.1 (F6_0 g_key0 g_key1 g_v0 g_v1 g_v2 g_v3 g_word g_length).2.2.1 (F6_0 g_key0 g_key1 g_v0 g_v1 g_v2 g_v3 g_word g_length).2.2.2 X I N hF
  have B40_0 : ∀ (T : State) (L : List Loc) (g_v0 : Int64) (g_v1 : Int64) (g_v2 : Int64) (g_v3 : Int64), Stand p l e ({ frames := 3, cells := 0, slots := 0, locals := 64 } : Room) s m #[(.ref a)] below meth c T L 0 0 → own_I Z n0 T.heap a g_key0 g_key1 g_v0 g_v1 g_v2 g_v3 g_word g_length → Fr n0 L → w = F4_40_0 g_key0 g_key1 g_v0 g_v1 g_v2 g_v3 g_word g_length → own_E p e below Qq T (mkF m 40 #[.val (.ref a), .val (.int (0 : Int32))] []) := by
    intro T L g_v0 g_v1 g_v2 g_v3 X I N hF
    refine own_st (fun _ => XS.iinc X.here hx rfl (hb hby d4_40) rfl (l' := #[.val (.ref a), .val (.int (1 : Int32))]) rfl) ?_
    show own_E p e below Qq T (mkF m 43 #[.val (.ref a), .val (.int (1 : Int32))] [])
    refine own_st (fun _ => XS.goto X.here hx rfl (pc0 := 43) (pc' := 31) rfl (hb hby d4_43) (by decide) (by decide)) ?_
    show own_E p e below Qq T (mkF m 31 #[.val (.ref a), .val (.int (1 : Int32))] [])
    exact B31_1 _ _ g_v0 g_v1 g_v2 g_v3 X I N hF
  have B31_0 : ∀ (T : State) (L : List Loc) (g_v0 : Int64) (g_v1 : Int64) (g_v2 : Int64) (g_v3 : Int64), Stand p l e ({ frames := 3, cells := 0, slots := 0, locals := 64 } : Room) s m #[(.ref a)] below meth c T L 0 0 → own_I Z n0 T.heap a g_key0 g_key1 g_v0 g_v1 g_v2 g_v3 g_word g_length → Fr n0 L → w = F4_31_0 g_key0 g_key1 g_v0 g_v1 g_v2 g_v3 g_word g_length → own_E p e below Qq T (mkF m 31 #[.val (.ref a), .val (.int (0 : Int32))] []) := by
    intro T L g_v0 g_v1 g_v2 g_v3 X I N hF
    refine own_st (fun _ => XS.iloadN X.here hx rfl (hb hby d4_31) rfl) ?_
    show own_E p e below Qq T (mkF m 32 #[.val (.ref a), .val (.int (0 : Int32))] [(.int (0 : Int32))])
    refine own_st (fun _ => XS.iconst X.here hx rfl (hb hby d4_32)) ?_
    show own_E p e below Qq T (mkF m 33 #[.val (.ref a), .val (.int (0 : Int32))] [(.int (4 : Int32)), (.int (0 : Int32))])
    refine own_st (fun _ => XS.icmpNo X.here hx rfl (hb hby d4_33) rfl (XT.ii_ge_f (by decide))) ?_
    show own_E p e below Qq T (mkF m 36 #[.val (.ref a), .val (.int (0 : Int32))] [])
    refine own_st (fun _ => XS.aloadN X.here hx rfl (hb hby d4_36) rfl rfl) ?_
    show own_E p e below Qq T (mkF m 37 #[.val (.ref a), .val (.int (0 : Int32))] [(.ref a)])
    refine own_callP X hx hZ (z := (⟨"com/example/tomekeeper/tomekeeper/tome/SipHash", "start", "()V"⟩ : MethodName)) hown (hw _ (List.mem_of_getElem? (i := 44) rfl)) (hw _ (List.mem_of_getElem? (i := 16) rfl)) rfl (hw _ (List.mem_of_getElem? (i := 46) rfl)) (hw _ (List.mem_of_getElem? (i := 45) rfl)) (hw _ (List.mem_of_getElem? (i := 2) rfl)) (hw _ (List.mem_of_getElem? (i := 47) rfl)) (by decide) (own_Iex I) (W := 0) (argsL := []) (rest := []) (rm6 l Z a0 hw a g_key0 g_key1 g_v0 g_v1 g_v2 g_v3 g_word g_length _ n0 I) (by decide) (by decide) (by decide) (by decide) rfl (by rw [hml]; rfl) (lenOf pd_3 rfl) rfl (by show 2 * 0 + _ ≤ _; exact Nat.le_of_eq rfl) (hb hby d4_37) ?_
    intro T8 L8 v X' hq
    obtain ⟨rfl, N', I'⟩ := hq
    replace I := I'
    replace N := Fr.app N N'
    replace X : Stand p l e ({ frames := 3, cells := 0, slots := 0, locals := 64 } : Room) s m #[(.ref a)] below meth c T8 _ 0 0 := X'
    clear X' N' I'
    show own_E p e below Qq T8 (mkF m 40 #[.val (.ref a), .val (.int (0 : Int32))] [])
    exact B40_0 _ _ (F6_0 g_key0 g_key1 g_v0 g_v1 g_v2 g_v3 g_word g_length).1 (F6_0 g_key0 g_key1 g_v0 g_v1 g_v2 g_v3 g_word g_length).2.1 (F6_0 g_key0 g_key1 g_v0 g_v1 g_v2 g_v3 g_word g_length).2.2.1 (F6_0 g_key0 g_key1 g_v0 g_v1 g_v2 g_v3 g_word g_length).2.2.2 X I N hF
  have B29 : ∀ (T : State) (L : List Loc) (g_v0 : Int64) (g_v1 : Int64) (g_v2 : Int64) (g_v3 : Int64), Stand p l e ({ frames := 3, cells := 0, slots := 0, locals := 64 } : Room) s m #[(.ref a)] below meth c T L 0 0 → own_I Z n0 T.heap a g_key0 g_key1 g_v0 g_v1 g_v2 g_v3 g_word g_length → Fr n0 L → w = F4_29 g_key0 g_key1 g_v0 g_v1 g_v2 g_v3 g_word g_length → own_E p e below Qq T (mkF m 29 #[.val (.ref a), .unset] []) := by
    intro T L g_v0 g_v1 g_v2 g_v3 X I N hF
    refine own_st (fun _ => XS.iconst X.here hx rfl (hb hby d4_29)) ?_
    show own_E p e below Qq T (mkF m 30 #[.val (.ref a), .unset] [(.int (0 : Int32))])
    refine own_st (fun _ => XS.istoreN X.here hx rfl (hb hby d4_30) rfl (l' := #[.val (.ref a), .val (.int (0 : Int32))]) rfl) ?_
    show own_E p e below Qq T (mkF m 31 #[.val (.ref a), .val (.int (0 : Int32))] [])
    exact B31_0 _ _ g_v0 g_v1 g_v2 g_v3 X I N hF
  have B17 : ∀ (T : State) (L : List Loc) (g_v0 : Int64) (g_v1 : Int64) (g_v2 : Int64) (g_v3 : Int64), Stand p l e ({ frames := 3, cells := 0, slots := 0, locals := 64 } : Room) s m #[(.ref a)] below meth c T L 0 0 → own_I Z n0 T.heap a g_key0 g_key1 g_v0 g_v1 g_v2 g_v3 g_word g_length → Fr n0 L → w = F4_17 g_key0 g_key1 g_v0 g_v1 g_v2 g_v3 g_word g_length → own_E p e below Qq T (mkF m 17 #[.val (.ref a), .unset] []) := by
    intro T L g_v0 g_v1 g_v2 g_v3 X I N hF
    refine own_st (fun _ => XS.aloadN X.here hx rfl (hb hby d4_17) rfl rfl) ?_
    show own_E p e below Qq T (mkF m 18 #[.val (.ref a), .unset] [(.ref a)])
    refine own_st (fun _ => XS.dup X.here hx rfl (hb hby d4_18) rfl rfl) ?_
    show own_E p e below Qq T (mkF m 19 #[.val (.ref a), .unset] [(.ref a), (.ref a)])
    obtain ⟨T9, X9, e9, st9⟩ := getF X hx hZ hown (host := "") (Or.inl (hw _ (List.mem_of_getElem? (i := 25) rfl))) Via.refl rfl (own_Ig_v2 I) (g := (mkF m 19 #[.val (.ref a), .unset] [(.ref a), (.ref a)])) rfl rfl (hb hby d4_19)
    refine own_st st9 ?_
    replace I := own_tr (P := fun h => own_I Z n0 h a g_key0 g_key1 g_v0 g_v1 g_v2 g_v3 g_word g_length) e9 I
    replace X := X9
    clear st9 e9 X9
    show own_E p e below Qq T9 (mkF m 22 #[.val (.ref a), .unset] [(.long g_v2), (.ref a)])
    refine own_st (fun _ => X.ldc2J hx hown (mvT hZ (hw _ (List.mem_of_getElem? (i := 52) rfl))) rfl (hb hby d4_22)) ?_
    show own_E p e below Qq T9 (mkF m 25 #[.val (.ref a), .unset] [(.long (255 : Int64)), (.long g_v2), (.ref a)])
    refine own_st (fun _ => XT.lxor X.here hx rfl (hb hby d4_25) rfl) ?_
    show own_E p e below Qq T9 (mkF m 26 #[.val (.ref a), .unset] [(.long (g_v2 ^^^ (255 : Int64))), (.ref a)])
    obtain ⟨T10, h10, X10, e10, W10, st10⟩ := putF X hx hZ hown (host := "") (Or.inl (hw _ (List.mem_of_getElem? (i := 25) rfl))) Via.refl rfl (own_Ig_v2 I) (own_Iex I) (Or.inl (hw _ (List.mem_of_getElem? (i := 26) rfl))) (hw _ (List.mem_of_getElem? (i := 1) rfl)) (ty := .long) (by decide) rfl rfl (g := (mkF m 26 #[.val (.ref a), .unset] [(.long (g_v2 ^^^ (255 : Int64))), (.ref a)])) rfl rfl (hb hby d4_26)
    subst e10
    refine own_st st10 ?_
    replace N := Fr.snoc X10 N (own_Ina I)
    replace I := own_Is_v2 hw W10 I
    replace X := X10
    clear st10 X10
    show own_E p e below Qq T10 (mkF m 29 #[.val (.ref a), .unset] [])
    exact B29 _ _ g_v0 g_v1 (g_v2 ^^^ (255 : Int64)) g_v3 X I N hF
  show own_E p e below Qq T (mkF m 0 #[.val (.ref a), .unset] [])
  refine own_st (fun _ => XS.aloadN X.here hx rfl (hb hby d4_0) rfl rfl) ?_
  show own_E p e below Qq T (mkF m 1 #[.val (.ref a), .unset] [(.ref a)])
  refine own_st (fun _ => XS.aloadN X.here hx rfl (hb hby d4_1) rfl rfl) ?_
  show own_E p e below Qq T (mkF m 2 #[.val (.ref a), .unset] [(.ref a), (.ref a)])
  obtain ⟨T11, X11, e11, st11⟩ := getF X hx hZ hown (host := "") (Or.inl (hw _ (List.mem_of_getElem? (i := 30) rfl))) Via.refl rfl (own_Ig_word I) (g := (mkF m 2 #[.val (.ref a), .unset] [(.ref a), (.ref a)])) rfl rfl (hb hby d4_2)
  refine own_st st11 ?_
  replace I := own_tr (P := fun h => own_I Z n0 h a g_key0 g_key1 g_v0 g_v1 g_v2 g_v3 g_word g_length) e11 I
  replace X := X11
  clear st11 e11 X11
  show own_E p e below Qq T11 (mkF m 5 #[.val (.ref a), .unset] [(.long g_word), (.ref a)])
  refine own_st (fun _ => XS.aloadN X.here hx rfl (hb hby d4_5) rfl rfl) ?_
  show own_E p e below Qq T11 (mkF m 6 #[.val (.ref a), .unset] [(.ref a), (.long g_word), (.ref a)])
  obtain ⟨T12, X12, e12, st12⟩ := getF X hx hZ hown (host := "") (Or.inl (hw _ (List.mem_of_getElem? (i := 32) rfl))) Via.refl rfl (own_Ig_length I) (g := (mkF m 6 #[.val (.ref a), .unset] [(.ref a), (.long g_word), (.ref a)])) rfl rfl (hb hby d4_6)
  refine own_st st12 ?_
  replace I := own_tr (P := fun h => own_I Z n0 h a g_key0 g_key1 g_v0 g_v1 g_v2 g_v3 g_word g_length) e12 I
  replace X := X12
  clear st12 e12 X12
  show own_E p e below Qq T12 (mkF m 9 #[.val (.ref a), .unset] [(.int g_length), (.long g_word), (.ref a)])
  refine own_st (fun _ => XT.i2l X.here hx rfl (hb hby d4_9) rfl) ?_
  show own_E p e below Qq T12 (mkF m 10 #[.val (.ref a), .unset] [(.long (g_length.toInt64)), (.long g_word), (.ref a)])
  refine own_st (fun _ => XS.bipush X.here hx rfl (hb hby d4_10)) ?_
  show own_E p e below Qq T12 (mkF m 12 #[.val (.ref a), .unset] [(.int (56 : Int32)), (.long (g_length.toInt64)), (.long g_word), (.ref a)])
  refine own_st (fun _ => XT.lshl X.here hx rfl (hb hby d4_12) rfl) ?_
  show own_E p e below Qq T12 (mkF m 13 #[.val (.ref a), .unset] [(.long ((g_length.toInt64) <<< ((56 : Int32).toInt64 &&& 63))), (.long g_word), (.ref a)])
  refine own_st (fun _ => XT.lor X.here hx rfl (hb hby d4_13) rfl) ?_
  show own_E p e below Qq T12 (mkF m 14 #[.val (.ref a), .unset] [(.long (g_word ||| ((g_length.toInt64) <<< ((56 : Int32).toInt64 &&& 63)))), (.ref a)])
  refine own_callP X hx hZ (z := (⟨"com/example/tomekeeper/tomekeeper/tome/SipHash", "start", "()V"⟩ : MethodName)) hown (hw _ (List.mem_of_getElem? (i := 40) rfl)) (hw _ (List.mem_of_getElem? (i := 16) rfl)) rfl (hw _ (List.mem_of_getElem? (i := 42) rfl)) (hw _ (List.mem_of_getElem? (i := 41) rfl)) (hw _ (List.mem_of_getElem? (i := 2) rfl)) (hw _ (List.mem_of_getElem? (i := 43) rfl)) (by decide) (own_Iex I) (W := 0) (argsL := [(.long (g_word ||| ((g_length.toInt64) <<< ((56 : Int32).toInt64 &&& 63))))]) (rest := []) (rm5 l Z a0 hw a (g_word ||| ((g_length.toInt64) <<< ((56 : Int32).toInt64 &&& 63))) g_key0 g_key1 g_v0 g_v1 g_v2 g_v3 g_word g_length _ n0 I) (by decide) (by decide) (by decide) (by decide) rfl (by rw [hml]; rfl) (lenOf pd_5 rfl) rfl (by show 2 * 0 + _ ≤ _; exact Nat.le_of_eq rfl) (hb hby d4_14) ?_
  intro T13 L13 v X' hq
  obtain ⟨rfl, N', I'⟩ := hq
  replace I := I'
  replace N := Fr.app N N'
  replace X : Stand p l e ({ frames := 3, cells := 0, slots := 0, locals := 64 } : Room) s m #[(.ref a)] below meth c T13 _ 0 0 := X'
  clear X' N' I'
  show own_E p e below Qq T13 (mkF m 17 #[.val (.ref a), .unset] [])
  exact B17 _ _ (F5_0 (g_word ||| ((g_length.toInt64) <<< ((56 : Int32).toInt64 &&& 63))) g_key0 g_key1 g_v0 g_v1 g_v2 g_v3 g_word g_length).1 (F5_0 (g_word ||| ((g_length.toInt64) <<< ((56 : Int32).toInt64 &&& 63))) g_key0 g_key1 g_v0 g_v1 g_v2 g_v3 g_word g_length).2.1 (F5_0 (g_word ||| ((g_length.toInt64) <<< ((56 : Int32).toInt64 &&& 63))) g_key0 g_key1 g_v0 g_v1 g_v2 g_v3 g_word g_length).2.2.1 (F5_0 (g_word ||| ((g_length.toInt64) <<< ((56 : Int32).toInt64 &&& 63))) g_key0 g_key1 g_v0 g_v1 g_v2 g_v3 g_word g_length).2.2.2 X I N hF
theorem pn_0 : plainName "com/example/tomekeeper/tomekeeper/tome/SipHashStartPinLaw" = true := by first | (simp [plainName, overriddenIn]; done) | decide +kernel
theorem ef_0 (m : MethodId) (p0 : Int64) (p1 : Int64) (p2 : Int32) (p3 : Int32) : entryFrame m #[(.long p0), (.long p1), (.int p2), (.int p3)] maxLocals = (mkF m 0 #[.val (.long p0), .second, .val (.long p1), .second, .val (.int p2), .val (.int p3), .unset, .unset, .unset, .unset, .unset, .unset, .unset, .unset, .unset] []) := by first | (simp [entryFrame, mkF, argsToLocals, Value.category, maxLocals]; done) | rfl
def F0_184 (x0 : Int64) (x1 : Int64) (x2 : Int32) (x3 : Int32) (x5 : Int64) (x7 : Int64) (x8 : Int64) (y9 : Int32) (g_key0 : Int64) (g_key1 : Int64) (g_v0 : Int64) (g_v1 : Int64) (g_v2 : Int64) (g_v3 : Int64) (g_word : Int64) (g_length : Int32) : Int32 := (nar .boolean y9)
def F0_183 (x0 : Int64) (x1 : Int64) (x2 : Int32) (x3 : Int32) (x5 : Int64) (x7 : Int64) (x8 : Int64) (g_key0 : Int64) (g_key1 : Int64) (g_v0 : Int64) (g_v1 : Int64) (g_v2 : Int64) (g_v3 : Int64) (g_word : Int64) (g_length : Int32) : Int32 := (F0_184 x0 x1 x2 x3 x5 x7 x8 (0 : Int32) g_key0 g_key1 g_v0 g_v1 g_v2 g_v3 g_word g_length)
def F0_160 (x0 : Int64) (x1 : Int64) (x2 : Int32) (x3 : Int32) (x5 : Int64) (x7 : Int64) (y8 : Int64) (g_key0 : Int64) (g_key1 : Int64) (g_v0 : Int64) (g_v1 : Int64) (g_v2 : Int64) (g_v3 : Int64) (g_word : Int64) (g_length : Int32) : Int32 := (if x5 = x7 then (if y8 = (8246050544436514353 : Int64) then (F0_184 x0 x1 x2 x3 x5 x7 y8 (1 : Int32) g_key0 g_key1 g_v0 g_v1 g_v2 g_v3 g_word g_length) else (F0_183 x0 x1 x2 x3 x5 x7 y8 g_key0 g_key1 g_v0 g_v1 g_v2 g_v3 g_word g_length)) else (F0_183 x0 x1 x2 x3 x5 x7 y8 g_key0 g_key1 g_v0 g_v1 g_v2 g_v3 g_word g_length))
def F0_155 (x0 : Int64) (x1 : Int64) (x2 : Int32) (x3 : Int32) (x5 : Int64) (x7 : Int64) (g_key0 : Int64) (g_key1 : Int64) (g_v0 : Int64) (g_v1 : Int64) (g_v2 : Int64) (g_v3 : Int64) (g_word : Int64) (g_length : Int32) : Int32 := (F0_160 x0 x1 x2 x3 x5 x7 (F4_0 g_key0 g_key1 g_v0 g_v1 g_v2 g_v3 g_word g_length).1 g_key0 g_key1 (F4_0 g_key0 g_key1 g_v0 g_v1 g_v2 g_v3 g_word g_length).2.1 (F4_0 g_key0 g_key1 g_v0 g_v1 g_v2 g_v3 g_word g_length).2.2.1 (F4_0 g_key0 g_key1 g_v0 g_v1 g_v2 g_v3 g_word g_length).2.2.2.1 (F4_0 g_key0 g_key1 g_v0 g_v1 g_v2 g_v3 g_word g_length).2.2.2.2 g_word g_length)
def F0_150 (x0 : Int64) (x1 : Int64) (x2 : Int32) (x3 : Int32) (x5 : Int64) (x7 : Int64) (g_key0 : Int64) (g_key1 : Int64) (g_v0 : Int64) (g_v1 : Int64) (g_v2 : Int64) (g_v3 : Int64) (g_word : Int64) (g_length : Int32) : Int32 := (F0_155 x0 x1 x2 x3 x5 x7 g_key0 g_key1 (F3_0 g_key0 g_key1 g_v0 g_v1 g_v2 g_v3 g_word g_length).1 (F3_0 g_key0 g_key1 g_v0 g_v1 g_v2 g_v3 g_word g_length).2.1 (F3_0 g_key0 g_key1 g_v0 g_v1 g_v2 g_v3 g_word g_length).2.2.1 (F3_0 g_key0 g_key1 g_v0 g_v1 g_v2 g_v3 g_word g_length).2.2.2.1 (F3_0 g_key0 g_key1 g_v0 g_v1 g_v2 g_v3 g_word g_length).2.2.2.2.1 (F3_0 g_key0 g_key1 g_v0 g_v1 g_v2 g_v3 g_word g_length).2.2.2.2.2)
def F0_133 (x0 : Int64) (x1 : Int64) (x2 : Int32) (x3 : Int32) (x5 : Int64) (x7 : Int64) (g_key0 : Int64) (g_key1 : Int64) (g_v0 : Int64) (g_v1 : Int64) (g_v2 : Int64) (g_v3 : Int64) (g_word : Int64) (g_length : Int32) : Int32 := (if (x2 &&& (16 : Int32)) = (0 : Int32) then (F0_150 x0 x1 x2 x3 x5 x7 g_key0 g_key1 g_v0 g_v1 g_v2 g_v3 g_word g_length) else (F0_150 x0 x1 x2 x3 x5 x7 g_key0 g_key1 (F8_0 x3 g_key0 g_key1 g_v0 g_v1 g_v2 g_v3 g_word g_length).1 (F8_0 x3 g_key0 g_key1 g_v0 g_v1 g_v2 g_v3 g_word g_length).2.1 (F8_0 x3 g_key0 g_key1 g_v0 g_v1 g_v2 g_v3 g_word g_length).2.2.1 (F8_0 x3 g_key0 g_key1 g_v0 g_v1 g_v2 g_v3 g_word g_length).2.2.2.1 (F8_0 x3 g_key0 g_key1 g_v0 g_v1 g_v2 g_v3 g_word g_length).2.2.2.2.1 (F8_0 x3 g_key0 g_key1 g_v0 g_v1 g_v2 g_v3 g_word g_length).2.2.2.2.2))
def F0_118 (x0 : Int64) (x1 : Int64) (x2 : Int32) (x3 : Int32) (x5 : Int64) (y6 : Int64) (g_key0 : Int64) (g_key1 : Int64) (g_v0 : Int64) (g_v1 : Int64) (g_v2 : Int64) (g_v3 : Int64) (g_word : Int64) (g_length : Int32) : Int32 := (F0_133 x0 x1 x2 x3 x5 y6 (F1_0 (506097522914230528 : Int64) (1084818905618843912 : Int64) (0 : Int64) (0 : Int64) (0 : Int64) (0 : Int64) (0 : Int64) (0 : Int64) (0 : Int64) (0 : Int32)).1 (F1_0 (506097522914230528 : Int64) (1084818905618843912 : Int64) (0 : Int64) (0 : Int64) (0 : Int64) (0 : Int64) (0 : Int64) (0 : Int64) (0 : Int64) (0 : Int32)).2.1 (F1_0 (506097522914230528 : Int64) (1084818905618843912 : Int64) (0 : Int64) (0 : Int64) (0 : Int64) (0 : Int64) (0 : Int64) (0 : Int64) (0 : Int64) (0 : Int32)).2.2.1 (F1_0 (506097522914230528 : Int64) (1084818905618843912 : Int64) (0 : Int64) (0 : Int64) (0 : Int64) (0 : Int64) (0 : Int64) (0 : Int64) (0 : Int64) (0 : Int32)).2.2.2.1 (F1_0 (506097522914230528 : Int64) (1084818905618843912 : Int64) (0 : Int64) (0 : Int64) (0 : Int64) (0 : Int64) (0 : Int64) (0 : Int64) (0 : Int64) (0 : Int32)).2.2.2.2.1 (F1_0 (506097522914230528 : Int64) (1084818905618843912 : Int64) (0 : Int64) (0 : Int64) (0 : Int64) (0 : Int64) (0 : Int64) (0 : Int64) (0 : Int64) (0 : Int32)).2.2.2.2.2.1 (F1_0 (506097522914230528 : Int64) (1084818905618843912 : Int64) (0 : Int64) (0 : Int64) (0 : Int64) (0 : Int64) (0 : Int64) (0 : Int64) (0 : Int64) (0 : Int32)).2.2.2.2.2.2.1 (F1_0 (506097522914230528 : Int64) (1084818905618843912 : Int64) (0 : Int64) (0 : Int64) (0 : Int64) (0 : Int64) (0 : Int64) (0 : Int64) (0 : Int64) (0 : Int32)).2.2.2.2.2.2.2)
def F0_113 (x0 : Int64) (x1 : Int64) (x2 : Int32) (x3 : Int32) (x5 : Int64) (g_key0 : Int64) (g_key1 : Int64) (g_v0 : Int64) (g_v1 : Int64) (g_v2 : Int64) (g_v3 : Int64) (g_word : Int64) (g_length : Int32) : Int32 := (F0_118 x0 x1 x2 x3 x5 (F4_0 g_key0 g_key1 g_v0 g_v1 g_v2 g_v3 g_word g_length).1 g_key0 g_key1 (F4_0 g_key0 g_key1 g_v0 g_v1 g_v2 g_v3 g_word g_length).2.1 (F4_0 g_key0 g_key1 g_v0 g_v1 g_v2 g_v3 g_word g_length).2.2.1 (F4_0 g_key0 g_key1 g_v0 g_v1 g_v2 g_v3 g_word g_length).2.2.2.1 (F4_0 g_key0 g_key1 g_v0 g_v1 g_v2 g_v3 g_word g_length).2.2.2.2 g_word g_length)
def F0_96 (x0 : Int64) (x1 : Int64) (x2 : Int32) (x3 : Int32) (x5 : Int64) (g_key0 : Int64) (g_key1 : Int64) (g_v0 : Int64) (g_v1 : Int64) (g_v2 : Int64) (g_v3 : Int64) (g_word : Int64) (g_length : Int32) : Int32 := (if (x2 &&& (8 : Int32)) = (0 : Int32) then (F0_113 x0 x1 x2 x3 x5 g_key0 g_key1 g_v0 g_v1 g_v2 g_v3 g_word g_length) else (F0_113 x0 x1 x2 x3 x5 g_key0 g_key1 (F8_0 x3 g_key0 g_key1 g_v0 g_v1 g_v2 g_v3 g_word g_length).1 (F8_0 x3 g_key0 g_key1 g_v0 g_v1 g_v2 g_v3 g_word g_length).2.1 (F8_0 x3 g_key0 g_key1 g_v0 g_v1 g_v2 g_v3 g_word g_length).2.2.1 (F8_0 x3 g_key0 g_key1 g_v0 g_v1 g_v2 g_v3 g_word g_length).2.2.2.1 (F8_0 x3 g_key0 g_key1 g_v0 g_v1 g_v2 g_v3 g_word g_length).2.2.2.2.1 (F8_0 x3 g_key0 g_key1 g_v0 g_v1 g_v2 g_v3 g_word g_length).2.2.2.2.2))
def F0_85 (x0 : Int64) (x1 : Int64) (x2 : Int32) (x3 : Int32) (y4 : Int64) (g_key0 : Int64) (g_key1 : Int64) (g_v0 : Int64) (g_v1 : Int64) (g_v2 : Int64) (g_v3 : Int64) (g_word : Int64) (g_length : Int32) : Int32 := (F0_96 x0 x1 x2 x3 y4 (F1_0 x0 x1 (0 : Int64) (0 : Int64) (0 : Int64) (0 : Int64) (0 : Int64) (0 : Int64) (0 : Int64) (0 : Int32)).1 (F1_0 x0 x1 (0 : Int64) (0 : Int64) (0 : Int64) (0 : Int64) (0 : Int64) (0 : Int64) (0 : Int64) (0 : Int32)).2.1 (F1_0 x0 x1 (0 : Int64) (0 : Int64) (0 : Int64) (0 : Int64) (0 : Int64) (0 : Int64) (0 : Int64) (0 : Int32)).2.2.1 (F1_0 x0 x1 (0 : Int64) (0 : Int64) (0 : Int64) (0 : Int64) (0 : Int64) (0 : Int64) (0 : Int64) (0 : Int32)).2.2.2.1 (F1_0 x0 x1 (0 : Int64) (0 : Int64) (0 : Int64) (0 : Int64) (0 : Int64) (0 : Int64) (0 : Int64) (0 : Int32)).2.2.2.2.1 (F1_0 x0 x1 (0 : Int64) (0 : Int64) (0 : Int64) (0 : Int64) (0 : Int64) (0 : Int64) (0 : Int64) (0 : Int32)).2.2.2.2.2.1 (F1_0 x0 x1 (0 : Int64) (0 : Int64) (0 : Int64) (0 : Int64) (0 : Int64) (0 : Int64) (0 : Int64) (0 : Int32)).2.2.2.2.2.2.1 (F1_0 x0 x1 (0 : Int64) (0 : Int64) (0 : Int64) (0 : Int64) (0 : Int64) (0 : Int64) (0 : Int64) (0 : Int32)).2.2.2.2.2.2.2)
def F0_80 (x0 : Int64) (x1 : Int64) (x2 : Int32) (x3 : Int32) (g_key0 : Int64) (g_key1 : Int64) (g_v0 : Int64) (g_v1 : Int64) (g_v2 : Int64) (g_v3 : Int64) (g_word : Int64) (g_length : Int32) : Int32 := (F0_85 x0 x1 x2 x3 (F4_0 g_key0 g_key1 g_v0 g_v1 g_v2 g_v3 g_word g_length).1 g_key0 g_key1 (F4_0 g_key0 g_key1 g_v0 g_v1 g_v2 g_v3 g_word g_length).2.1 (F4_0 g_key0 g_key1 g_v0 g_v1 g_v2 g_v3 g_word g_length).2.2.1 (F4_0 g_key0 g_key1 g_v0 g_v1 g_v2 g_v3 g_word g_length).2.2.2.1 (F4_0 g_key0 g_key1 g_v0 g_v1 g_v2 g_v3 g_word g_length).2.2.2.2 g_word g_length)
def F0_65 (x0 : Int64) (x1 : Int64) (x2 : Int32) (x3 : Int32) (g_key0 : Int64) (g_key1 : Int64) (g_v0 : Int64) (g_v1 : Int64) (g_v2 : Int64) (g_v3 : Int64) (g_word : Int64) (g_length : Int32) : Int32 := (if (x2 &&& (8 : Int32)) = (0 : Int32) then (F0_80 x0 x1 x2 x3 g_key0 g_key1 g_v0 g_v1 g_v2 g_v3 g_word g_length) else (F0_80 x0 x1 x2 x3 g_key0 g_key1 (F8_0 x3 g_key0 g_key1 g_v0 g_v1 g_v2 g_v3 g_word g_length).1 (F8_0 x3 g_key0 g_key1 g_v0 g_v1 g_v2 g_v3 g_word g_length).2.1 (F8_0 x3 g_key0 g_key1 g_v0 g_v1 g_v2 g_v3 g_word g_length).2.2.1 (F8_0 x3 g_key0 g_key1 g_v0 g_v1 g_v2 g_v3 g_word g_length).2.2.2.1 (F8_0 x3 g_key0 g_key1 g_v0 g_v1 g_v2 g_v3 g_word g_length).2.2.2.2.1 (F8_0 x3 g_key0 g_key1 g_v0 g_v1 g_v2 g_v3 g_word g_length).2.2.2.2.2))
def F0_60 (x0 : Int64) (x1 : Int64) (x2 : Int32) (x3 : Int32) (g_key0 : Int64) (g_key1 : Int64) (g_v0 : Int64) (g_v1 : Int64) (g_v2 : Int64) (g_v3 : Int64) (g_word : Int64) (g_length : Int32) : Int32 := (F0_65 x0 x1 x2 x3 g_key0 g_key1 (F3_0 g_key0 g_key1 g_v0 g_v1 g_v2 g_v3 g_word g_length).1 (F3_0 g_key0 g_key1 g_v0 g_v1 g_v2 g_v3 g_word g_length).2.1 (F3_0 g_key0 g_key1 g_v0 g_v1 g_v2 g_v3 g_word g_length).2.2.1 (F3_0 g_key0 g_key1 g_v0 g_v1 g_v2 g_v3 g_word g_length).2.2.2.1 (F3_0 g_key0 g_key1 g_v0 g_v1 g_v2 g_v3 g_word g_length).2.2.2.2.1 (F3_0 g_key0 g_key1 g_v0 g_v1 g_v2 g_v3 g_word g_length).2.2.2.2.2)
def F0_59 (x0 : Int64) (x1 : Int64) (x2 : Int32) (x3 : Int32) (y4 : Int64) (g_key0 : Int64) (g_key1 : Int64) (g_v0 : Int64) (g_v1 : Int64) (g_v2 : Int64) (g_v3 : Int64) (g_word : Int64) (g_length : Int32) : Int32 := (F0_60 x0 x1 x2 x3 g_key0 g_key1 g_v0 g_v1 g_v2 g_v3 g_word g_length)
def F0_47 (x0 : Int64) (x1 : Int64) (x2 : Int32) (x3 : Int32) (g_key0 : Int64) (g_key1 : Int64) (g_v0 : Int64) (g_v1 : Int64) (g_v2 : Int64) (g_v3 : Int64) (g_word : Int64) (g_length : Int32) : Int32 := (if (x2 &&& (4 : Int32)) = (0 : Int32) then (F0_60 x0 x1 x2 x3 g_key0 g_key1 g_v0 g_v1 g_v2 g_v3 g_word g_length) else (F0_59 x0 x1 x2 x3 (F4_0 g_key0 g_key1 g_v0 g_v1 g_v2 g_v3 g_word g_length).1 g_key0 g_key1 (F4_0 g_key0 g_key1 g_v0 g_v1 g_v2 g_v3 g_word g_length).2.1 (F4_0 g_key0 g_key1 g_v0 g_v1 g_v2 g_v3 g_word g_length).2.2.1 (F4_0 g_key0 g_key1 g_v0 g_v1 g_v2 g_v3 g_word g_length).2.2.2.1 (F4_0 g_key0 g_key1 g_v0 g_v1 g_v2 g_v3 g_word g_length).2.2.2.2 g_word g_length))
def F0_28 (x0 : Int64) (x1 : Int64) (x2 : Int32) (x3 : Int32) (g_key0 : Int64) (g_key1 : Int64) (g_v0 : Int64) (g_v1 : Int64) (g_v2 : Int64) (g_v3 : Int64) (g_word : Int64) (g_length : Int32) : Int32 := (if (x2 &&& (2 : Int32)) = (0 : Int32) then (F0_47 x0 x1 x2 x3 g_key0 g_key1 g_v0 g_v1 g_v2 g_v3 g_word g_length) else (F0_47 x0 x1 x2 x3 g_key0 g_key1 (F10_0 ((x0 ^^^ x1) ^^^ (x2.toInt64)) g_key0 g_key1 g_v0 g_v1 g_v2 g_v3 g_word g_length).1 (F10_0 ((x0 ^^^ x1) ^^^ (x2.toInt64)) g_key0 g_key1 g_v0 g_v1 g_v2 g_v3 g_word g_length).2.1 (F10_0 ((x0 ^^^ x1) ^^^ (x2.toInt64)) g_key0 g_key1 g_v0 g_v1 g_v2 g_v3 g_word g_length).2.2.1 (F10_0 ((x0 ^^^ x1) ^^^ (x2.toInt64)) g_key0 g_key1 g_v0 g_v1 g_v2 g_v3 g_word g_length).2.2.2.1 (F10_0 ((x0 ^^^ x1) ^^^ (x2.toInt64)) g_key0 g_key1 g_v0 g_v1 g_v2 g_v3 g_word g_length).2.2.2.2.1 (F10_0 ((x0 ^^^ x1) ^^^ (x2.toInt64)) g_key0 g_key1 g_v0 g_v1 g_v2 g_v3 g_word g_length).2.2.2.2.2))
def F0_9 (x0 : Int64) (x1 : Int64) (x2 : Int32) (x3 : Int32) (g_key0 : Int64) (g_key1 : Int64) (g_v0 : Int64) (g_v1 : Int64) (g_v2 : Int64) (g_v3 : Int64) (g_word : Int64) (g_length : Int32) : Int32 := (if (x2 &&& (1 : Int32)) = (0 : Int32) then (F0_28 x0 x1 x2 x3 g_key0 g_key1 g_v0 g_v1 g_v2 g_v3 g_word g_length) else (F0_28 x0 x1 x2 x3 g_key0 g_key1 (F9_0 (XT.ushr x2 (8 : Int32)) g_key0 g_key1 g_v0 g_v1 g_v2 g_v3 g_word g_length).1 (F9_0 (XT.ushr x2 (8 : Int32)) g_key0 g_key1 g_v0 g_v1 g_v2 g_v3 g_word g_length).2.1 (F9_0 (XT.ushr x2 (8 : Int32)) g_key0 g_key1 g_v0 g_v1 g_v2 g_v3 g_word g_length).2.2.1 (F9_0 (XT.ushr x2 (8 : Int32)) g_key0 g_key1 g_v0 g_v1 g_v2 g_v3 g_word g_length).2.2.2.1 (F9_0 (XT.ushr x2 (8 : Int32)) g_key0 g_key1 g_v0 g_v1 g_v2 g_v3 g_word g_length).2.2.2.2.1 (F9_0 (XT.ushr x2 (8 : Int32)) g_key0 g_key1 g_v0 g_v1 g_v2 g_v3 g_word g_length).2.2.2.2.2))
def F0_0 (x0 : Int64) (x1 : Int64) (x2 : Int32) (x3 : Int32) : Int32 := (F0_9 x0 x1 x2 x3 (F1_0 x0 x1 (0 : Int64) (0 : Int64) (0 : Int64) (0 : Int64) (0 : Int64) (0 : Int64) (0 : Int64) (0 : Int32)).1 (F1_0 x0 x1 (0 : Int64) (0 : Int64) (0 : Int64) (0 : Int64) (0 : Int64) (0 : Int64) (0 : Int64) (0 : Int32)).2.1 (F1_0 x0 x1 (0 : Int64) (0 : Int64) (0 : Int64) (0 : Int64) (0 : Int64) (0 : Int64) (0 : Int64) (0 : Int32)).2.2.1 (F1_0 x0 x1 (0 : Int64) (0 : Int64) (0 : Int64) (0 : Int64) (0 : Int64) (0 : Int64) (0 : Int64) (0 : Int32)).2.2.2.1 (F1_0 x0 x1 (0 : Int64) (0 : Int64) (0 : Int64) (0 : Int64) (0 : Int64) (0 : Int64) (0 : Int64) (0 : Int32)).2.2.2.2.1 (F1_0 x0 x1 (0 : Int64) (0 : Int64) (0 : Int64) (0 : Int64) (0 : Int64) (0 : Int64) (0 : Int64) (0 : Int32)).2.2.2.2.2.1 (F1_0 x0 x1 (0 : Int64) (0 : Int64) (0 : Int64) (0 : Int64) (0 : Int64) (0 : Int64) (0 : Int64) (0 : Int32)).2.2.2.2.2.2.1 (F1_0 x0 x1 (0 : Int64) (0 : Int64) (0 : Int64) (0 : Int64) (0 : Int64) (0 : Int64) (0 : Int64) (0 : Int32)).2.2.2.2.2.2.2)
set_option maxRecDepth 65536 in
set_option maxHeartbeats 40000000 in
theorem rm0 (l : Launch) (Z : State) (a0 : Array Value) (hw : ∀ d ∈ tables_1, d.before a0 Z = true) (p0 : Int64) (p1 : Int64) (p2 : Int32) (p3 : Int32) (h0 : Heap) (n0 : Nat) (Z0 : n0 ≤ h0.size) :
    own_M l Z x code maxLocals ret room_1 #[(.long p0), (.long p1), (.int p2), (.int p3)] h0 (fun v h L => v = some (.int (F0_0 p0 p1 p2 p3)) ∧ Fr n0 L ∧ True) := by
  refine own_body pn_0 ?_
  intro p e s m below meth c T hx hby hml hown hZ hret hlk hnm X eT
  have N := Fr.nil n0
  replace Z0 : n0 ≤ T.heap.size := by rw [eT]; exact Z0
  obtain ⟨w, hF⟩ : ∃ w, w = F0_0 p0 p1 p2 p3 := ⟨_, rfl⟩
  try rw [← hF]
  generalize hQ : own_Q s (fun v h L => v = some (.int w) ∧ Fr n0 L ∧ True) room_1.cells room_1.slots = Qq
  refine own_st (fun _ k => castTop (ef_0 m p0 p1 p2 p3) k) ?_
  clear eT
  have B184 : ∀ (T : State) (L : List Loc) (x0 : Int64) (x1 : Int64) (x2 : Int32) (x3 : Int32) (x4 : Addr) (x5 : Int64) (x6 : Addr) (x7 : Int64) (x8 : Int64) (y9 : Int32) (xa : Addr) (g_key0 : Int64) (g_key1 : Int64) (g_v0 : Int64) (g_v1 : Int64) (g_v2 : Int64) (g_v3 : Int64) (g_word : Int64) (g_length : Int32), Stand p l e room_1 s m #[(.long p0), (.long p1), (.int p2), (.int p3)] below meth c T L 3 24 → own_I Z n0 T.heap xa g_key0 g_key1 g_v0 g_v1 g_v2 g_v3 g_word g_length → Fr n0 L → w = F0_184 x0 x1 x2 x3 x5 x7 x8 y9 g_key0 g_key1 g_v0 g_v1 g_v2 g_v3 g_word g_length → own_E p e below Qq T (mkF m 184 #[.val (.long x0), .second, .val (.long x1), .second, .val (.int x2), .val (.int x3), .val (.ref x4), .val (.long x5), .second, .val (.ref x6), .val (.long x7), .second, .val (.ref xa), .val (.long x8), .second] [(.int y9)]) := by
    intro T L x0 x1 x2 x3 x4 x5 x6 x7 x8 y9 xa g_key0 g_key1 g_v0 g_v1 g_v2 g_v3 g_word g_length X I N hF
    rw [← hQ]
    exact own_retN X hx hlk (t := .boolean) hret (by simp) (hb hby at_184) (by decide) (by decide) ⟨by (rw [hF]; try rfl), N, trivial⟩
  have B183 : ∀ (T : State) (L : List Loc) (x0 : Int64) (x1 : Int64) (x2 : Int32) (x3 : Int32) (x4 : Addr) (x5 : Int64) (x6 : Addr) (x7 : Int64) (x8 : Int64) (xa : Addr) (g_key0 : Int64) (g_key1 : Int64) (g_v0 : Int64) (g_v1 : Int64) (g_v2 : Int64) (g_v3 : Int64) (g_word : Int64) (g_length : Int32), Stand p l e room_1 s m #[(.long p0), (.long p1), (.int p2), (.int p3)] below meth c T L 3 24 → own_I Z n0 T.heap xa g_key0 g_key1 g_v0 g_v1 g_v2 g_v3 g_word g_length → Fr n0 L → w = F0_183 x0 x1 x2 x3 x5 x7 x8 g_key0 g_key1 g_v0 g_v1 g_v2 g_v3 g_word g_length → own_E p e below Qq T (mkF m 183 #[.val (.long x0), .second, .val (.long x1), .second, .val (.int x2), .val (.int x3), .val (.ref x4), .val (.long x5), .second, .val (.ref x6), .val (.long x7), .second, .val (.ref xa), .val (.long x8), .second] []) := by
    intro T L x0 x1 x2 x3 x4 x5 x6 x7 x8 xa g_key0 g_key1 g_v0 g_v1 g_v2 g_v3 g_word g_length X I N hF
    refine own_st (fun _ => XS.iconst X.here hx rfl (hb hby at_183)) ?_
    show own_E p e below Qq T (mkF m 184 #[.val (.long x0), .second, .val (.long x1), .second, .val (.int x2), .val (.int x3), .val (.ref x4), .val (.long x5), .second, .val (.ref x6), .val (.long x7), .second, .val (.ref xa), .val (.long x8), .second] [(.int (0 : Int32))])
    exact B184 _ _ x0 x1 x2 x3 x4 x5 x6 x7 x8 (0 : Int32) xa g_key0 g_key1 g_v0 g_v1 g_v2 g_v3 g_word g_length X I N hF
  have B160 : ∀ (T : State) (L : List Loc) (x0 : Int64) (x1 : Int64) (x2 : Int32) (x3 : Int32) (x4 : Addr) (x5 : Int64) (x6 : Addr) (x7 : Int64) (y8 : Int64) (xa : Addr) (g_key0 : Int64) (g_key1 : Int64) (g_v0 : Int64) (g_v1 : Int64) (g_v2 : Int64) (g_v3 : Int64) (g_word : Int64) (g_length : Int32), Stand p l e room_1 s m #[(.long p0), (.long p1), (.int p2), (.int p3)] below meth c T L 3 24 → own_I Z n0 T.heap xa g_key0 g_key1 g_v0 g_v1 g_v2 g_v3 g_word g_length → Fr n0 L → w = F0_160 x0 x1 x2 x3 x5 x7 y8 g_key0 g_key1 g_v0 g_v1 g_v2 g_v3 g_word g_length → own_E p e below Qq T (mkF m 160 #[.val (.long x0), .second, .val (.long x1), .second, .val (.int x2), .val (.int x3), .val (.ref x4), .val (.long x5), .second, .val (.ref x6), .val (.long x7), .second, .val (.ref xa), .unset, .unset] [(.long y8)]) := by
    intro T L x0 x1 x2 x3 x4 x5 x6 x7 y8 xa g_key0 g_key1 g_v0 g_v1 g_v2 g_v3 g_word g_length X I N hF
    refine own_st (fun _ => XT.lstore X.here hx rfl (hb hby at_160) rfl (l' := #[.val (.long x0), .second, .val (.long x1), .second, .val (.int x2), .val (.int x3), .val (.ref x4), .val (.long x5), .second, .val (.ref x6), .val (.long x7), .second, .val (.ref xa), .val (.long y8), .second]) rfl) ?_
    show own_E p e below Qq T (mkF m 162 #[.val (.long x0), .second, .val (.long x1), .second, .val (.int x2), .val (.int x3), .val (.ref x4), .val (.long x5), .second, .val (.ref x6), .val (.long x7), .second, .val (.ref xa), .val (.long y8), .second] [])
    refine own_st (fun _ => XT.lload X.here hx rfl (hb hby at_162) rfl) ?_
    show own_E p e below Qq T (mkF m 164 #[.val (.long x0), .second, .val (.long x1), .second, .val (.int x2), .val (.int x3), .val (.ref x4), .val (.long x5), .second, .val (.ref x6), .val (.long x7), .second, .val (.ref xa), .val (.long y8), .second] [(.long x5)])
    refine own_st (fun _ => XT.lload X.here hx rfl (hb hby at_164) rfl) ?_
    show own_E p e below Qq T (mkF m 166 #[.val (.long x0), .second, .val (.long x1), .second, .val (.int x2), .val (.int x3), .val (.ref x4), .val (.long x5), .second, .val (.ref x6), .val (.long x7), .second, .val (.ref xa), .val (.long y8), .second] [(.long x7), (.long x5)])
    refine own_st (fun _ => XT.lcmp X.here hx rfl (hb hby at_166) rfl) ?_
    show own_E p e below Qq T (mkF m 167 #[.val (.long x0), .second, .val (.long x1), .second, .val (.int x2), .val (.int x3), .val (.ref x4), .val (.long x5), .second, .val (.ref x6), .val (.long x7), .second, .val (.ref xa), .val (.long y8), .second] [(.int (XT.cmpL x5 x7))])
    by_cases q167 : x5 = x7
    · replace hF := hF.trans (if_pos q167)
      refine own_st (fun _ => XS.ifNo X.here hx rfl (hb hby at_167) rfl (XT.ll_ne_f q167)) ?_
      show own_E p e below Qq T (mkF m 170 #[.val (.long x0), .second, .val (.long x1), .second, .val (.int x2), .val (.int x3), .val (.ref x4), .val (.long x5), .second, .val (.ref x6), .val (.long x7), .second, .val (.ref xa), .val (.long y8), .second] [])
      refine own_st (fun _ => XT.lload X.here hx rfl (hb hby at_170) rfl) ?_
      show own_E p e below Qq T (mkF m 172 #[.val (.long x0), .second, .val (.long x1), .second, .val (.int x2), .val (.int x3), .val (.ref x4), .val (.long x5), .second, .val (.ref x6), .val (.long x7), .second, .val (.ref xa), .val (.long y8), .second] [(.long y8)])
      refine own_st (fun _ => X.ldc2J hx hown (mvT hZ (hw _ (List.mem_of_getElem? (i := 55) rfl))) rfl (hb hby at_172)) ?_
      show own_E p e below Qq T (mkF m 175 #[.val (.long x0), .second, .val (.long x1), .second, .val (.int x2), .val (.int x3), .val (.ref x4), .val (.long x5), .second, .val (.ref x6), .val (.long x7), .second, .val (.ref xa), .val (.long y8), .second] [(.long (8246050544436514353 : Int64)), (.long y8)])
      refine own_st (fun _ => XT.lcmp X.here hx rfl (hb hby at_175) rfl) ?_
      show own_E p e below Qq T (mkF m 176 #[.val (.long x0), .second, .val (.long x1), .second, .val (.int x2), .val (.int x3), .val (.ref x4), .val (.long x5), .second, .val (.ref x6), .val (.long x7), .second, .val (.ref xa), .val (.long y8), .second] [(.int (XT.cmpL y8 (8246050544436514353 : Int64)))])
      by_cases q176 : y8 = (8246050544436514353 : Int64)
      · replace hF := hF.trans (if_pos q176)
        refine own_st (fun _ => XS.ifNo X.here hx rfl (hb hby at_176) rfl (XT.ll_ne_f q176)) ?_
        show own_E p e below Qq T (mkF m 179 #[.val (.long x0), .second, .val (.long x1), .second, .val (.int x2), .val (.int x3), .val (.ref x4), .val (.long x5), .second, .val (.ref x6), .val (.long x7), .second, .val (.ref xa), .val (.long y8), .second] [])
        refine own_st (fun _ => XS.iconst X.here hx rfl (hb hby at_179)) ?_
        show own_E p e below Qq T (mkF m 180 #[.val (.long x0), .second, .val (.long x1), .second, .val (.int x2), .val (.int x3), .val (.ref x4), .val (.long x5), .second, .val (.ref x6), .val (.long x7), .second, .val (.ref xa), .val (.long y8), .second] [(.int (1 : Int32))])
        refine own_st (fun _ => XS.goto X.here hx rfl (pc0 := 180) (pc' := 184) rfl (hb hby at_180) (by decide) (by decide)) ?_
        show own_E p e below Qq T (mkF m 184 #[.val (.long x0), .second, .val (.long x1), .second, .val (.int x2), .val (.int x3), .val (.ref x4), .val (.long x5), .second, .val (.ref x6), .val (.long x7), .second, .val (.ref xa), .val (.long y8), .second] [(.int (1 : Int32))])
        exact B184 _ _ x0 x1 x2 x3 x4 x5 x6 x7 y8 (1 : Int32) xa g_key0 g_key1 g_v0 g_v1 g_v2 g_v3 g_word g_length X I N hF
      · replace hF := hF.trans (if_neg q176)
        refine own_st (fun _ => XS.ifYes X.here hx rfl (pc0 := 176) (pc' := 183) rfl (hb hby at_176) rfl (XT.ll_ne_t q176) (by decide) (by decide)) ?_
        show own_E p e below Qq T (mkF m 183 #[.val (.long x0), .second, .val (.long x1), .second, .val (.int x2), .val (.int x3), .val (.ref x4), .val (.long x5), .second, .val (.ref x6), .val (.long x7), .second, .val (.ref xa), .val (.long y8), .second] [])
        exact B183 _ _ x0 x1 x2 x3 x4 x5 x6 x7 y8 xa g_key0 g_key1 g_v0 g_v1 g_v2 g_v3 g_word g_length X I N hF
    · replace hF := hF.trans (if_neg q167)
      refine own_st (fun _ => XS.ifYes X.here hx rfl (pc0 := 167) (pc' := 183) rfl (hb hby at_167) rfl (XT.ll_ne_t q167) (by decide) (by decide)) ?_
      show own_E p e below Qq T (mkF m 183 #[.val (.long x0), .second, .val (.long x1), .second, .val (.int x2), .val (.int x3), .val (.ref x4), .val (.long x5), .second, .val (.ref x6), .val (.long x7), .second, .val (.ref xa), .val (.long y8), .second] [])
      exact B183 _ _ x0 x1 x2 x3 x4 x5 x6 x7 y8 xa g_key0 g_key1 g_v0 g_v1 g_v2 g_v3 g_word g_length X I N hF
  have B155 : ∀ (T : State) (L : List Loc) (x0 : Int64) (x1 : Int64) (x2 : Int32) (x3 : Int32) (x4 : Addr) (x5 : Int64) (x6 : Addr) (x7 : Int64) (xa : Addr) (g_key0 : Int64) (g_key1 : Int64) (g_v0 : Int64) (g_v1 : Int64) (g_v2 : Int64) (g_v3 : Int64) (g_word : Int64) (g_length : Int32), Stand p l e room_1 s m #[(.long p0), (.long p1), (.int p2), (.int p3)] below meth c T L 3 24 → own_I Z n0 T.heap xa g_key0 g_key1 g_v0 g_v1 g_v2 g_v3 g_word g_length → Fr n0 L → w = F0_155 x0 x1 x2 x3 x5 x7 g_key0 g_key1 g_v0 g_v1 g_v2 g_v3 g_word g_length → own_E p e below Qq T (mkF m 155 #[.val (.long x0), .second, .val (.long x1), .second, .val (.int x2), .val (.int x3), .val (.ref x4), .val (.long x5), .second, .val (.ref x6), .val (.long x7), .second, .val (.ref xa), .unset, .unset] []) := by
    intro T L x0 x1 x2 x3 x4 x5 x6 x7 xa g_key0 g_key1 g_v0 g_v1 g_v2 g_v3 g_word g_length X I N hF
    refine own_st (fun _ => XS.aload X.here hx rfl (hb hby at_155) rfl rfl) ?_
    show own_E p e below Qq T (mkF m 157 #[.val (.long x0), .second, .val (.long x1), .second, .val (.int x2), .val (.int x3), .val (.ref x4), .val (.long x5), .second, .val (.ref x6), .val (.long x7), .second, .val (.ref xa), .unset, .unset] [(.ref xa)])
    refine own_callV X hx hZ hown (hw _ (List.mem_of_getElem? (i := 35) rfl)) (hw _ (List.mem_of_getElem? (i := 36) rfl)) (hw _ (List.mem_of_getElem? (i := 38) rfl)) (hw _ (List.mem_of_getElem? (i := 37) rfl)) (hw _ (List.mem_of_getElem? (i := 2) rfl)) (hw _ (List.mem_of_getElem? (i := 39) rfl)) (by decide) (own_Iex I) (W := 0) (argsL := []) (rest := []) (rm4 l Z a0 hw xa g_key0 g_key1 g_v0 g_v1 g_v2 g_v3 g_word g_length _ n0 I) (by decide) (by decide) (by decide) (by decide) rfl (by rw [hml]; rfl) (lenOf pd_4 rfl) rfl (by show 2 * 0 + _ ≤ _; exact Nat.le_of_eq rfl) (hb hby at_157) ?_
    intro T1 L1 v X' hq
    obtain ⟨rfl, N', I'⟩ := hq
    replace I := I'
    replace N := Fr.app N N'
    replace X : Stand p l e room_1 s m #[(.long p0), (.long p1), (.int p2), (.int p3)] below meth c T1 _ 3 24 := X'
    clear X' N' I'
    show own_E p e below Qq T1 (mkF m 160 #[.val (.long x0), .second, .val (.long x1), .second, .val (.int x2), .val (.int x3), .val (.ref x4), .val (.long x5), .second, .val (.ref x6), .val (.long x7), .second, .val (.ref xa), .unset, .unset] [(.long (F4_0 g_key0 g_key1 g_v0 g_v1 g_v2 g_v3 g_word g_length).1)])
    exact B160 _ _ x0 x1 x2 x3 x4 x5 x6 x7 (F4_0 g_key0 g_key1 g_v0 g_v1 g_v2 g_v3 g_word g_length).1 xa g_key0 g_key1 (F4_0 g_key0 g_key1 g_v0 g_v1 g_v2 g_v3 g_word g_length).2.1 (F4_0 g_key0 g_key1 g_v0 g_v1 g_v2 g_v3 g_word g_length).2.2.1 (F4_0 g_key0 g_key1 g_v0 g_v1 g_v2 g_v3 g_word g_length).2.2.2.1 (F4_0 g_key0 g_key1 g_v0 g_v1 g_v2 g_v3 g_word g_length).2.2.2.2 g_word g_length X I N hF
  have B150 : ∀ (T : State) (L : List Loc) (x0 : Int64) (x1 : Int64) (x2 : Int32) (x3 : Int32) (x4 : Addr) (x5 : Int64) (x6 : Addr) (x7 : Int64) (xa : Addr) (g_key0 : Int64) (g_key1 : Int64) (g_v0 : Int64) (g_v1 : Int64) (g_v2 : Int64) (g_v3 : Int64) (g_word : Int64) (g_length : Int32), Stand p l e room_1 s m #[(.long p0), (.long p1), (.int p2), (.int p3)] below meth c T L 3 24 → own_I Z n0 T.heap xa g_key0 g_key1 g_v0 g_v1 g_v2 g_v3 g_word g_length → Fr n0 L → w = F0_150 x0 x1 x2 x3 x5 x7 g_key0 g_key1 g_v0 g_v1 g_v2 g_v3 g_word g_length → own_E p e below Qq T (mkF m 150 #[.val (.long x0), .second, .val (.long x1), .second, .val (.int x2), .val (.int x3), .val (.ref x4), .val (.long x5), .second, .val (.ref x6), .val (.long x7), .second, .val (.ref xa), .unset, .unset] []) := by
    intro T L x0 x1 x2 x3 x4 x5 x6 x7 xa g_key0 g_key1 g_v0 g_v1 g_v2 g_v3 g_word g_length X I N hF
    refine own_st (fun _ => XS.aload X.here hx rfl (hb hby at_150) rfl rfl) ?_
    show own_E p e below Qq T (mkF m 152 #[.val (.long x0), .second, .val (.long x1), .second, .val (.int x2), .val (.int x3), .val (.ref x4), .val (.long x5), .second, .val (.ref x6), .val (.long x7), .second, .val (.ref xa), .unset, .unset] [(.ref xa)])
    refine own_callV X hx hZ hown (hw _ (List.mem_of_getElem? (i := 34) rfl)) (hw _ (List.mem_of_getElem? (i := 14) rfl)) (hw _ (List.mem_of_getElem? (i := 16) rfl)) (hw _ (List.mem_of_getElem? (i := 15) rfl)) (hw _ (List.mem_of_getElem? (i := 2) rfl)) (hw _ (List.mem_of_getElem? (i := 17) rfl)) (by decide) (own_Iex I) (W := 0) (argsL := []) (rest := []) (rm3 l Z a0 hw xa g_key0 g_key1 g_v0 g_v1 g_v2 g_v3 g_word g_length _ n0 I) (by decide) (by decide) (by decide) (by decide) rfl (by rw [hml]; rfl) (lenOf pd_3 rfl) rfl (by show 2 * 0 + _ ≤ _; exact Nat.le_of_eq rfl) (hb hby at_152) ?_
    intro T2 L2 v X' hq
    obtain ⟨rfl, N', I'⟩ := hq
    replace I := I'
    replace N := Fr.app N N'
    replace X : Stand p l e room_1 s m #[(.long p0), (.long p1), (.int p2), (.int p3)] below meth c T2 _ 3 24 := X'
    clear X' N' I'
    show own_E p e below Qq T2 (mkF m 155 #[.val (.long x0), .second, .val (.long x1), .second, .val (.int x2), .val (.int x3), .val (.ref x4), .val (.long x5), .second, .val (.ref x6), .val (.long x7), .second, .val (.ref xa), .unset, .unset] [])
    exact B155 _ _ x0 x1 x2 x3 x4 x5 x6 x7 xa g_key0 g_key1 (F3_0 g_key0 g_key1 g_v0 g_v1 g_v2 g_v3 g_word g_length).1 (F3_0 g_key0 g_key1 g_v0 g_v1 g_v2 g_v3 g_word g_length).2.1 (F3_0 g_key0 g_key1 g_v0 g_v1 g_v2 g_v3 g_word g_length).2.2.1 (F3_0 g_key0 g_key1 g_v0 g_v1 g_v2 g_v3 g_word g_length).2.2.2.1 (F3_0 g_key0 g_key1 g_v0 g_v1 g_v2 g_v3 g_word g_length).2.2.2.2.1 (F3_0 g_key0 g_key1 g_v0 g_v1 g_v2 g_v3 g_word g_length).2.2.2.2.2 X I N hF
  have B133 : ∀ (T : State) (L : List Loc) (x0 : Int64) (x1 : Int64) (x2 : Int32) (x3 : Int32) (x4 : Addr) (x5 : Int64) (x6 : Addr) (x7 : Int64) (xa : Addr) (g_key0 : Int64) (g_key1 : Int64) (g_v0 : Int64) (g_v1 : Int64) (g_v2 : Int64) (g_v3 : Int64) (g_word : Int64) (g_length : Int32), Stand p l e room_1 s m #[(.long p0), (.long p1), (.int p2), (.int p3)] below meth c T L 3 24 → own_I Z n0 T.heap xa g_key0 g_key1 g_v0 g_v1 g_v2 g_v3 g_word g_length → Fr n0 L → w = F0_133 x0 x1 x2 x3 x5 x7 g_key0 g_key1 g_v0 g_v1 g_v2 g_v3 g_word g_length → own_E p e below Qq T (mkF m 133 #[.val (.long x0), .second, .val (.long x1), .second, .val (.int x2), .val (.int x3), .val (.ref x4), .val (.long x5), .second, .val (.ref x6), .val (.long x7), .second, .unset, .unset, .unset] [(.ref xa)]) := by
    intro T L x0 x1 x2 x3 x4 x5 x6 x7 xa g_key0 g_key1 g_v0 g_v1 g_v2 g_v3 g_word g_length X I N hF
    refine own_st (fun _ => XS.astore X.here hx rfl (hb hby at_133) rfl rfl (l' := #[.val (.long x0), .second, .val (.long x1), .second, .val (.int x2), .val (.int x3), .val (.ref x4), .val (.long x5), .second, .val (.ref x6), .val (.long x7), .second, .val (.ref xa), .unset, .unset]) rfl) ?_
    show own_E p e below Qq T (mkF m 135 #[.val (.long x0), .second, .val (.long x1), .second, .val (.int x2), .val (.int x3), .val (.ref x4), .val (.long x5), .second, .val (.ref x6), .val (.long x7), .second, .val (.ref xa), .unset, .unset] [])
    refine own_st (fun _ => XS.iload X.here hx rfl (hb hby at_135) rfl) ?_
    show own_E p e below Qq T (mkF m 137 #[.val (.long x0), .second, .val (.long x1), .second, .val (.int x2), .val (.int x3), .val (.ref x4), .val (.long x5), .second, .val (.ref x6), .val (.long x7), .second, .val (.ref xa), .unset, .unset] [(.int x2)])
    refine own_st (fun _ => XS.bipush X.here hx rfl (hb hby at_137)) ?_
    show own_E p e below Qq T (mkF m 139 #[.val (.long x0), .second, .val (.long x1), .second, .val (.int x2), .val (.int x3), .val (.ref x4), .val (.long x5), .second, .val (.ref x6), .val (.long x7), .second, .val (.ref xa), .unset, .unset] [(.int (16 : Int32)), (.int x2)])
    refine own_st (fun _ => XS.iand X.here hx rfl (hb hby at_139) rfl) ?_
    show own_E p e below Qq T (mkF m 140 #[.val (.long x0), .second, .val (.long x1), .second, .val (.int x2), .val (.int x3), .val (.ref x4), .val (.long x5), .second, .val (.ref x6), .val (.long x7), .second, .val (.ref xa), .unset, .unset] [(.int (x2 &&& (16 : Int32)))])
    by_cases q140 : (x2 &&& (16 : Int32)) = (0 : Int32)
    · replace hF := hF.trans (if_pos q140)
      refine own_st (fun _ => XS.ifYes X.here hx rfl (pc0 := 140) (pc' := 150) rfl (hb hby at_140) rfl (XT.i0_eq_t q140) (by decide) (by decide)) ?_
      show own_E p e below Qq T (mkF m 150 #[.val (.long x0), .second, .val (.long x1), .second, .val (.int x2), .val (.int x3), .val (.ref x4), .val (.long x5), .second, .val (.ref x6), .val (.long x7), .second, .val (.ref xa), .unset, .unset] [])
      exact B150 _ _ x0 x1 x2 x3 x4 x5 x6 x7 xa g_key0 g_key1 g_v0 g_v1 g_v2 g_v3 g_word g_length X I N hF
    · replace hF := hF.trans (if_neg q140)
      refine own_st (fun _ => XS.ifNo X.here hx rfl (hb hby at_140) rfl (XT.i0_eq_f q140)) ?_
      show own_E p e below Qq T (mkF m 143 #[.val (.long x0), .second, .val (.long x1), .second, .val (.int x2), .val (.int x3), .val (.ref x4), .val (.long x5), .second, .val (.ref x6), .val (.long x7), .second, .val (.ref xa), .unset, .unset] [])
      refine own_st (fun _ => XS.aload X.here hx rfl (hb hby at_143) rfl rfl) ?_
      show own_E p e below Qq T (mkF m 145 #[.val (.long x0), .second, .val (.long x1), .second, .val (.int x2), .val (.int x3), .val (.ref x4), .val (.long x5), .second, .val (.ref x6), .val (.long x7), .second, .val (.ref xa), .unset, .unset] [(.ref xa)])
      refine own_st (fun _ => XS.iload X.here hx rfl (hb hby at_145) rfl) ?_
      show own_E p e below Qq T (mkF m 147 #[.val (.long x0), .second, .val (.long x1), .second, .val (.int x2), .val (.int x3), .val (.ref x4), .val (.long x5), .second, .val (.ref x6), .val (.long x7), .second, .val (.ref xa), .unset, .unset] [(.int x3), (.ref xa)])
      refine own_callV X hx hZ hown (hw _ (List.mem_of_getElem? (i := 56) rfl)) (hw _ (List.mem_of_getElem? (i := 57) rfl)) (hw _ (List.mem_of_getElem? (i := 59) rfl)) (hw _ (List.mem_of_getElem? (i := 58) rfl)) (hw _ (List.mem_of_getElem? (i := 2) rfl)) (hw _ (List.mem_of_getElem? (i := 60) rfl)) (by decide) (own_Iex I) (W := 0) (argsL := [(.int x3)]) (rest := []) (rm8 l Z a0 hw xa x3 g_key0 g_key1 g_v0 g_v1 g_v2 g_v3 g_word g_length _ n0 I) (by decide) (by decide) (by decide) (by decide) rfl (by rw [hml]; rfl) (lenOf pd_9 rfl) rfl (by show 2 * 0 + _ ≤ _; exact Nat.le_of_eq rfl) (hb hby at_147) ?_
      intro T3 L3 v X' hq
      obtain ⟨rfl, N', I'⟩ := hq
      replace I := I'
      replace N := Fr.app N N'
      replace X : Stand p l e room_1 s m #[(.long p0), (.long p1), (.int p2), (.int p3)] below meth c T3 _ 3 24 := X'
      clear X' N' I'
      show own_E p e below Qq T3 (mkF m 150 #[.val (.long x0), .second, .val (.long x1), .second, .val (.int x2), .val (.int x3), .val (.ref x4), .val (.long x5), .second, .val (.ref x6), .val (.long x7), .second, .val (.ref xa), .unset, .unset] [])
      exact B150 _ _ x0 x1 x2 x3 x4 x5 x6 x7 xa g_key0 g_key1 (F8_0 x3 g_key0 g_key1 g_v0 g_v1 g_v2 g_v3 g_word g_length).1 (F8_0 x3 g_key0 g_key1 g_v0 g_v1 g_v2 g_v3 g_word g_length).2.1 (F8_0 x3 g_key0 g_key1 g_v0 g_v1 g_v2 g_v3 g_word g_length).2.2.1 (F8_0 x3 g_key0 g_key1 g_v0 g_v1 g_v2 g_v3 g_word g_length).2.2.2.1 (F8_0 x3 g_key0 g_key1 g_v0 g_v1 g_v2 g_v3 g_word g_length).2.2.2.2.1 (F8_0 x3 g_key0 g_key1 g_v0 g_v1 g_v2 g_v3 g_word g_length).2.2.2.2.2 X I N hF
  have B118 : ∀ (T : State) (L : List Loc) (x0 : Int64) (x1 : Int64) (x2 : Int32) (x3 : Int32) (x4 : Addr) (x5 : Int64) (y6 : Int64) (xa : Addr) (g_key0 : Int64) (g_key1 : Int64) (g_v0 : Int64) (g_v1 : Int64) (g_v2 : Int64) (g_v3 : Int64) (g_word : Int64) (g_length : Int32), Stand p l e room_1 s m #[(.long p0), (.long p1), (.int p2), (.int p3)] below meth c T L 2 16 → own_I Z n0 T.heap xa g_key0 g_key1 g_v0 g_v1 g_v2 g_v3 g_word g_length → Fr n0 L → w = F0_118 x0 x1 x2 x3 x5 y6 g_key0 g_key1 g_v0 g_v1 g_v2 g_v3 g_word g_length → own_E p e below Qq T (mkF m 118 #[.val (.long x0), .second, .val (.long x1), .second, .val (.int x2), .val (.int x3), .val (.ref x4), .val (.long x5), .second, .val (.ref xa), .unset, .unset, .unset, .unset, .unset] [(.long y6)]) := by
    intro T L x0 x1 x2 x3 x4 x5 y6 xa g_key0 g_key1 g_v0 g_v1 g_v2 g_v3 g_word g_length X I N hF
    refine own_st (fun _ => XT.lstore X.here hx rfl (hb hby at_118) rfl (l' := #[.val (.long x0), .second, .val (.long x1), .second, .val (.int x2), .val (.int x3), .val (.ref x4), .val (.long x5), .second, .val (.ref xa), .val (.long y6), .second, .unset, .unset, .unset]) rfl) ?_
    show own_E p e below Qq T (mkF m 120 #[.val (.long x0), .second, .val (.long x1), .second, .val (.int x2), .val (.int x3), .val (.ref x4), .val (.long x5), .second, .val (.ref xa), .val (.long y6), .second, .unset, .unset, .unset] [])
    obtain ⟨T4, h4, X4, e4, E4, A4, D4, -, st4⟩ := newO X hx hZ hown (hw _ (List.mem_of_getElem? (i := 0) rfl)) (hw _ (List.mem_of_getElem? (i := 1) rfl)) (hw _ (List.mem_of_getElem? (i := 2) rfl)) rfl (g := (mkF m 120 #[.val (.long x0), .second, .val (.long x1), .second, .val (.int x2), .val (.int x3), .val (.ref x4), .val (.long x5), .second, .val (.ref xa), .val (.long y6), .second, .unset, .unset, .unset] [])) rfl (hb hby at_120) (by decide) (by decide)
    obtain ⟨a4, ga4⟩ : ∃ z, z = T.heap.size := ⟨_, rfl⟩
    rw [← ga4] at A4 D4 st4
    subst e4
    have I' := own_Inew hw (Nat.le_trans (own_Isz I) (Nat.le_of_eq ga4.symm)) A4 @D4
    replace I := I'
    refine own_st st4 ?_
    replace X := X4
    clear I' st4 X4 A4 D4 E4
    show own_E p e below Qq T4 (mkF m 123 #[.val (.long x0), .second, .val (.long x1), .second, .val (.int x2), .val (.int x3), .val (.ref x4), .val (.long x5), .second, .val (.ref xa), .val (.long y6), .second, .unset, .unset, .unset] [(.ref a4)])
    refine own_st (fun _ => XS.dup X.here hx rfl (hb hby at_123) rfl rfl) ?_
    show own_E p e below Qq T4 (mkF m 124 #[.val (.long x0), .second, .val (.long x1), .second, .val (.int x2), .val (.int x3), .val (.ref x4), .val (.long x5), .second, .val (.ref xa), .val (.long y6), .second, .unset, .unset, .unset] [(.ref a4), (.ref a4)])
    refine own_st (fun _ => X.ldc2J hx hown (mvT hZ (hw _ (List.mem_of_getElem? (i := 53) rfl))) rfl (hb hby at_124)) ?_
    show own_E p e below Qq T4 (mkF m 127 #[.val (.long x0), .second, .val (.long x1), .second, .val (.int x2), .val (.int x3), .val (.ref x4), .val (.long x5), .second, .val (.ref xa), .val (.long y6), .second, .unset, .unset, .unset] [(.long (506097522914230528 : Int64)), (.ref a4), (.ref a4)])
    refine own_st (fun _ => X.ldc2J hx hown (mvT hZ (hw _ (List.mem_of_getElem? (i := 54) rfl))) rfl (hb hby at_127)) ?_
    show own_E p e below Qq T4 (mkF m 130 #[.val (.long x0), .second, .val (.long x1), .second, .val (.int x2), .val (.int x3), .val (.ref x4), .val (.long x5), .second, .val (.ref xa), .val (.long y6), .second, .unset, .unset, .unset] [(.long (1084818905618843912 : Int64)), (.long (506097522914230528 : Int64)), (.ref a4), (.ref a4)])
    refine own_callC X hx hZ (y := (⟨"com/example/tomekeeper/tomekeeper/tome/SipHash", "<init>", "(JJ)V"⟩ : MethodName)) rfl hown (hw _ (List.mem_of_getElem? (i := 3) rfl)) (hw _ (List.mem_of_getElem? (i := 4) rfl)) (hw _ (List.mem_of_getElem? (i := 2) rfl)) (hw _ (List.mem_of_getElem? (i := 5) rfl)) (by decide) (W := 1) (a := a4) (argsL := [(.long (506097522914230528 : Int64)), (.long (1084818905618843912 : Int64))]) (rest := [(.ref a4)]) (rm1 l Z a0 hw a4 (506097522914230528 : Int64) (1084818905618843912 : Int64) (0 : Int64) (0 : Int64) (0 : Int64) (0 : Int64) (0 : Int64) (0 : Int64) (0 : Int64) (0 : Int32) _ n0 I) (by decide) (by decide) (by decide) (by decide) rfl (by rw [hml]; rfl) (lenOf pd_1 rfl) rfl (by show 2 * 0 + _ ≤ _; exact Nat.le_of_eq rfl) (hb hby at_130) ?_
    intro T5 L5 v X' hq
    obtain ⟨rfl, N', I'⟩ := hq
    replace I := I'
    replace N := Fr.app N N'
    replace X : Stand p l e room_1 s m #[(.long p0), (.long p1), (.int p2), (.int p3)] below meth c T5 _ 3 24 := X'
    clear X' N' I'
    show own_E p e below Qq T5 (mkF m 133 #[.val (.long x0), .second, .val (.long x1), .second, .val (.int x2), .val (.int x3), .val (.ref x4), .val (.long x5), .second, .val (.ref xa), .val (.long y6), .second, .unset, .unset, .unset] [(.ref a4)])
    exact B133 _ _ x0 x1 x2 x3 x4 x5 xa y6 a4 (F1_0 (506097522914230528 : Int64) (1084818905618843912 : Int64) (0 : Int64) (0 : Int64) (0 : Int64) (0 : Int64) (0 : Int64) (0 : Int64) (0 : Int64) (0 : Int32)).1 (F1_0 (506097522914230528 : Int64) (1084818905618843912 : Int64) (0 : Int64) (0 : Int64) (0 : Int64) (0 : Int64) (0 : Int64) (0 : Int64) (0 : Int64) (0 : Int32)).2.1 (F1_0 (506097522914230528 : Int64) (1084818905618843912 : Int64) (0 : Int64) (0 : Int64) (0 : Int64) (0 : Int64) (0 : Int64) (0 : Int64) (0 : Int64) (0 : Int32)).2.2.1 (F1_0 (506097522914230528 : Int64) (1084818905618843912 : Int64) (0 : Int64) (0 : Int64) (0 : Int64) (0 : Int64) (0 : Int64) (0 : Int64) (0 : Int64) (0 : Int32)).2.2.2.1 (F1_0 (506097522914230528 : Int64) (1084818905618843912 : Int64) (0 : Int64) (0 : Int64) (0 : Int64) (0 : Int64) (0 : Int64) (0 : Int64) (0 : Int64) (0 : Int32)).2.2.2.2.1 (F1_0 (506097522914230528 : Int64) (1084818905618843912 : Int64) (0 : Int64) (0 : Int64) (0 : Int64) (0 : Int64) (0 : Int64) (0 : Int64) (0 : Int64) (0 : Int32)).2.2.2.2.2.1 (F1_0 (506097522914230528 : Int64) (1084818905618843912 : Int64) (0 : Int64) (0 : Int64) (0 : Int64) (0 : Int64) (0 : Int64) (0 : Int64) (0 : Int64) (0 : Int32)).2.2.2.2.2.2.1 (F1_0 (506097522914230528 : Int64) (1084818905618843912 : Int64) (0 : Int64) (0 : Int64) (0 : Int64) (0 : Int64) (0 : Int64) (0 : Int64) (0 : Int64) (0 : Int32)).2.2.2.2.2.2.2 X I N hF
  have B113 : ∀ (T : State) (L : List Loc) (x0 : Int64) (x1 : Int64) (x2 : Int32) (x3 : Int32) (x4 : Addr) (x5 : Int64) (xa : Addr) (g_key0 : Int64) (g_key1 : Int64) (g_v0 : Int64) (g_v1 : Int64) (g_v2 : Int64) (g_v3 : Int64) (g_word : Int64) (g_length : Int32), Stand p l e room_1 s m #[(.long p0), (.long p1), (.int p2), (.int p3)] below meth c T L 2 16 → own_I Z n0 T.heap xa g_key0 g_key1 g_v0 g_v1 g_v2 g_v3 g_word g_length → Fr n0 L → w = F0_113 x0 x1 x2 x3 x5 g_key0 g_key1 g_v0 g_v1 g_v2 g_v3 g_word g_length → own_E p e below Qq T (mkF m 113 #[.val (.long x0), .second, .val (.long x1), .second, .val (.int x2), .val (.int x3), .val (.ref x4), .val (.long x5), .second, .val (.ref xa), .unset, .unset, .unset, .unset, .unset] []) := by
    intro T L x0 x1 x2 x3 x4 x5 xa g_key0 g_key1 g_v0 g_v1 g_v2 g_v3 g_word g_length X I N hF
    refine own_st (fun _ => XS.aload X.here hx rfl (hb hby at_113) rfl rfl) ?_
    show own_E p e below Qq T (mkF m 115 #[.val (.long x0), .second, .val (.long x1), .second, .val (.int x2), .val (.int x3), .val (.ref x4), .val (.long x5), .second, .val (.ref xa), .unset, .unset, .unset, .unset, .unset] [(.ref xa)])
    refine own_callV X hx hZ hown (hw _ (List.mem_of_getElem? (i := 35) rfl)) (hw _ (List.mem_of_getElem? (i := 36) rfl)) (hw _ (List.mem_of_getElem? (i := 38) rfl)) (hw _ (List.mem_of_getElem? (i := 37) rfl)) (hw _ (List.mem_of_getElem? (i := 2) rfl)) (hw _ (List.mem_of_getElem? (i := 39) rfl)) (by decide) (own_Iex I) (W := 0) (argsL := []) (rest := []) (rm4 l Z a0 hw xa g_key0 g_key1 g_v0 g_v1 g_v2 g_v3 g_word g_length _ n0 I) (by decide) (by decide) (by decide) (by decide) rfl (by rw [hml]; rfl) (lenOf pd_4 rfl) rfl (by show 2 * 0 + _ ≤ _; exact Nat.le_of_eq rfl) (hb hby at_115) ?_
    intro T6 L6 v X' hq
    obtain ⟨rfl, N', I'⟩ := hq
    replace I := I'
    replace N := Fr.app N N'
    replace X : Stand p l e room_1 s m #[(.long p0), (.long p1), (.int p2), (.int p3)] below meth c T6 _ 2 16 := X'
    clear X' N' I'
    show own_E p e below Qq T6 (mkF m 118 #[.val (.long x0), .second, .val (.long x1), .second, .val (.int x2), .val (.int x3), .val (.ref x4), .val (.long x5), .second, .val (.ref xa), .unset, .unset, .unset, .unset, .unset] [(.long (F4_0 g_key0 g_key1 g_v0 g_v1 g_v2 g_v3 g_word g_length).1)])
    exact B118 _ _ x0 x1 x2 x3 x4 x5 (F4_0 g_key0 g_key1 g_v0 g_v1 g_v2 g_v3 g_word g_length).1 xa g_key0 g_key1 (F4_0 g_key0 g_key1 g_v0 g_v1 g_v2 g_v3 g_word g_length).2.1 (F4_0 g_key0 g_key1 g_v0 g_v1 g_v2 g_v3 g_word g_length).2.2.1 (F4_0 g_key0 g_key1 g_v0 g_v1 g_v2 g_v3 g_word g_length).2.2.2.1 (F4_0 g_key0 g_key1 g_v0 g_v1 g_v2 g_v3 g_word g_length).2.2.2.2 g_word g_length X I N hF
  have B96 : ∀ (T : State) (L : List Loc) (x0 : Int64) (x1 : Int64) (x2 : Int32) (x3 : Int32) (x4 : Addr) (x5 : Int64) (xa : Addr) (g_key0 : Int64) (g_key1 : Int64) (g_v0 : Int64) (g_v1 : Int64) (g_v2 : Int64) (g_v3 : Int64) (g_word : Int64) (g_length : Int32), Stand p l e room_1 s m #[(.long p0), (.long p1), (.int p2), (.int p3)] below meth c T L 2 16 → own_I Z n0 T.heap xa g_key0 g_key1 g_v0 g_v1 g_v2 g_v3 g_word g_length → Fr n0 L → w = F0_96 x0 x1 x2 x3 x5 g_key0 g_key1 g_v0 g_v1 g_v2 g_v3 g_word g_length → own_E p e below Qq T (mkF m 96 #[.val (.long x0), .second, .val (.long x1), .second, .val (.int x2), .val (.int x3), .val (.ref x4), .val (.long x5), .second, .unset, .unset, .unset, .unset, .unset, .unset] [(.ref xa)]) := by
    intro T L x0 x1 x2 x3 x4 x5 xa g_key0 g_key1 g_v0 g_v1 g_v2 g_v3 g_word g_length X I N hF
    refine own_st (fun _ => XS.astore X.here hx rfl (hb hby at_96) rfl rfl (l' := #[.val (.long x0), .second, .val (.long x1), .second, .val (.int x2), .val (.int x3), .val (.ref x4), .val (.long x5), .second, .val (.ref xa), .unset, .unset, .unset, .unset, .unset]) rfl) ?_
    show own_E p e below Qq T (mkF m 98 #[.val (.long x0), .second, .val (.long x1), .second, .val (.int x2), .val (.int x3), .val (.ref x4), .val (.long x5), .second, .val (.ref xa), .unset, .unset, .unset, .unset, .unset] [])
    refine own_st (fun _ => XS.iload X.here hx rfl (hb hby at_98) rfl) ?_
    show own_E p e below Qq T (mkF m 100 #[.val (.long x0), .second, .val (.long x1), .second, .val (.int x2), .val (.int x3), .val (.ref x4), .val (.long x5), .second, .val (.ref xa), .unset, .unset, .unset, .unset, .unset] [(.int x2)])
    refine own_st (fun _ => XS.bipush X.here hx rfl (hb hby at_100)) ?_
    show own_E p e below Qq T (mkF m 102 #[.val (.long x0), .second, .val (.long x1), .second, .val (.int x2), .val (.int x3), .val (.ref x4), .val (.long x5), .second, .val (.ref xa), .unset, .unset, .unset, .unset, .unset] [(.int (8 : Int32)), (.int x2)])
    refine own_st (fun _ => XS.iand X.here hx rfl (hb hby at_102) rfl) ?_
    show own_E p e below Qq T (mkF m 103 #[.val (.long x0), .second, .val (.long x1), .second, .val (.int x2), .val (.int x3), .val (.ref x4), .val (.long x5), .second, .val (.ref xa), .unset, .unset, .unset, .unset, .unset] [(.int (x2 &&& (8 : Int32)))])
    by_cases q103 : (x2 &&& (8 : Int32)) = (0 : Int32)
    · replace hF := hF.trans (if_pos q103)
      refine own_st (fun _ => XS.ifYes X.here hx rfl (pc0 := 103) (pc' := 113) rfl (hb hby at_103) rfl (XT.i0_eq_t q103) (by decide) (by decide)) ?_
      show own_E p e below Qq T (mkF m 113 #[.val (.long x0), .second, .val (.long x1), .second, .val (.int x2), .val (.int x3), .val (.ref x4), .val (.long x5), .second, .val (.ref xa), .unset, .unset, .unset, .unset, .unset] [])
      exact B113 _ _ x0 x1 x2 x3 x4 x5 xa g_key0 g_key1 g_v0 g_v1 g_v2 g_v3 g_word g_length X I N hF
    · replace hF := hF.trans (if_neg q103)
      refine own_st (fun _ => XS.ifNo X.here hx rfl (hb hby at_103) rfl (XT.i0_eq_f q103)) ?_
      show own_E p e below Qq T (mkF m 106 #[.val (.long x0), .second, .val (.long x1), .second, .val (.int x2), .val (.int x3), .val (.ref x4), .val (.long x5), .second, .val (.ref xa), .unset, .unset, .unset, .unset, .unset] [])
      refine own_st (fun _ => XS.aload X.here hx rfl (hb hby at_106) rfl rfl) ?_
      show own_E p e below Qq T (mkF m 108 #[.val (.long x0), .second, .val (.long x1), .second, .val (.int x2), .val (.int x3), .val (.ref x4), .val (.long x5), .second, .val (.ref xa), .unset, .unset, .unset, .unset, .unset] [(.ref xa)])
      refine own_st (fun _ => XS.iload X.here hx rfl (hb hby at_108) rfl) ?_
      show own_E p e below Qq T (mkF m 110 #[.val (.long x0), .second, .val (.long x1), .second, .val (.int x2), .val (.int x3), .val (.ref x4), .val (.long x5), .second, .val (.ref xa), .unset, .unset, .unset, .unset, .unset] [(.int x3), (.ref xa)])
      refine own_callV X hx hZ hown (hw _ (List.mem_of_getElem? (i := 56) rfl)) (hw _ (List.mem_of_getElem? (i := 57) rfl)) (hw _ (List.mem_of_getElem? (i := 59) rfl)) (hw _ (List.mem_of_getElem? (i := 58) rfl)) (hw _ (List.mem_of_getElem? (i := 2) rfl)) (hw _ (List.mem_of_getElem? (i := 60) rfl)) (by decide) (own_Iex I) (W := 0) (argsL := [(.int x3)]) (rest := []) (rm8 l Z a0 hw xa x3 g_key0 g_key1 g_v0 g_v1 g_v2 g_v3 g_word g_length _ n0 I) (by decide) (by decide) (by decide) (by decide) rfl (by rw [hml]; rfl) (lenOf pd_9 rfl) rfl (by show 2 * 0 + _ ≤ _; exact Nat.le_of_eq rfl) (hb hby at_110) ?_
      intro T7 L7 v X' hq
      obtain ⟨rfl, N', I'⟩ := hq
      replace I := I'
      replace N := Fr.app N N'
      replace X : Stand p l e room_1 s m #[(.long p0), (.long p1), (.int p2), (.int p3)] below meth c T7 _ 2 16 := X'
      clear X' N' I'
      show own_E p e below Qq T7 (mkF m 113 #[.val (.long x0), .second, .val (.long x1), .second, .val (.int x2), .val (.int x3), .val (.ref x4), .val (.long x5), .second, .val (.ref xa), .unset, .unset, .unset, .unset, .unset] [])
      exact B113 _ _ x0 x1 x2 x3 x4 x5 xa g_key0 g_key1 (F8_0 x3 g_key0 g_key1 g_v0 g_v1 g_v2 g_v3 g_word g_length).1 (F8_0 x3 g_key0 g_key1 g_v0 g_v1 g_v2 g_v3 g_word g_length).2.1 (F8_0 x3 g_key0 g_key1 g_v0 g_v1 g_v2 g_v3 g_word g_length).2.2.1 (F8_0 x3 g_key0 g_key1 g_v0 g_v1 g_v2 g_v3 g_word g_length).2.2.2.1 (F8_0 x3 g_key0 g_key1 g_v0 g_v1 g_v2 g_v3 g_word g_length).2.2.2.2.1 (F8_0 x3 g_key0 g_key1 g_v0 g_v1 g_v2 g_v3 g_word g_length).2.2.2.2.2 X I N hF
  have B85 : ∀ (T : State) (L : List Loc) (x0 : Int64) (x1 : Int64) (x2 : Int32) (x3 : Int32) (y4 : Int64) (xa : Addr) (g_key0 : Int64) (g_key1 : Int64) (g_v0 : Int64) (g_v1 : Int64) (g_v2 : Int64) (g_v3 : Int64) (g_word : Int64) (g_length : Int32), Stand p l e room_1 s m #[(.long p0), (.long p1), (.int p2), (.int p3)] below meth c T L 1 8 → own_I Z n0 T.heap xa g_key0 g_key1 g_v0 g_v1 g_v2 g_v3 g_word g_length → Fr n0 L → w = F0_85 x0 x1 x2 x3 y4 g_key0 g_key1 g_v0 g_v1 g_v2 g_v3 g_word g_length → own_E p e below Qq T (mkF m 85 #[.val (.long x0), .second, .val (.long x1), .second, .val (.int x2), .val (.int x3), .val (.ref xa), .unset, .unset, .unset, .unset, .unset, .unset, .unset, .unset] [(.long y4)]) := by
    intro T L x0 x1 x2 x3 y4 xa g_key0 g_key1 g_v0 g_v1 g_v2 g_v3 g_word g_length X I N hF
    refine own_st (fun _ => XT.lstore X.here hx rfl (hb hby at_85) rfl (l' := #[.val (.long x0), .second, .val (.long x1), .second, .val (.int x2), .val (.int x3), .val (.ref xa), .val (.long y4), .second, .unset, .unset, .unset, .unset, .unset, .unset]) rfl) ?_
    show own_E p e below Qq T (mkF m 87 #[.val (.long x0), .second, .val (.long x1), .second, .val (.int x2), .val (.int x3), .val (.ref xa), .val (.long y4), .second, .unset, .unset, .unset, .unset, .unset, .unset] [])
    obtain ⟨T8, h8, X8, e8, E8, A8, D8, -, st8⟩ := newO X hx hZ hown (hw _ (List.mem_of_getElem? (i := 0) rfl)) (hw _ (List.mem_of_getElem? (i := 1) rfl)) (hw _ (List.mem_of_getElem? (i := 2) rfl)) rfl (g := (mkF m 87 #[.val (.long x0), .second, .val (.long x1), .second, .val (.int x2), .val (.int x3), .val (.ref xa), .val (.long y4), .second, .unset, .unset, .unset, .unset, .unset, .unset] [])) rfl (hb hby at_87) (by decide) (by decide)
    obtain ⟨a8, ga8⟩ : ∃ z, z = T.heap.size := ⟨_, rfl⟩
    rw [← ga8] at A8 D8 st8
    subst e8
    have I' := own_Inew hw (Nat.le_trans (own_Isz I) (Nat.le_of_eq ga8.symm)) A8 @D8
    replace I := I'
    refine own_st st8 ?_
    replace X := X8
    clear I' st8 X8 A8 D8 E8
    show own_E p e below Qq T8 (mkF m 90 #[.val (.long x0), .second, .val (.long x1), .second, .val (.int x2), .val (.int x3), .val (.ref xa), .val (.long y4), .second, .unset, .unset, .unset, .unset, .unset, .unset] [(.ref a8)])
    refine own_st (fun _ => XS.dup X.here hx rfl (hb hby at_90) rfl rfl) ?_
    show own_E p e below Qq T8 (mkF m 91 #[.val (.long x0), .second, .val (.long x1), .second, .val (.int x2), .val (.int x3), .val (.ref xa), .val (.long y4), .second, .unset, .unset, .unset, .unset, .unset, .unset] [(.ref a8), (.ref a8)])
    refine own_st (fun _ => XT.lloadN X.here hx rfl (hb hby at_91) rfl) ?_
    show own_E p e below Qq T8 (mkF m 92 #[.val (.long x0), .second, .val (.long x1), .second, .val (.int x2), .val (.int x3), .val (.ref xa), .val (.long y4), .second, .unset, .unset, .unset, .unset, .unset, .unset] [(.long x0), (.ref a8), (.ref a8)])
    refine own_st (fun _ => XT.lloadN X.here hx rfl (hb hby at_92) rfl) ?_
    show own_E p e below Qq T8 (mkF m 93 #[.val (.long x0), .second, .val (.long x1), .second, .val (.int x2), .val (.int x3), .val (.ref xa), .val (.long y4), .second, .unset, .unset, .unset, .unset, .unset, .unset] [(.long x1), (.long x0), (.ref a8), (.ref a8)])
    refine own_callC X hx hZ (y := (⟨"com/example/tomekeeper/tomekeeper/tome/SipHash", "<init>", "(JJ)V"⟩ : MethodName)) rfl hown (hw _ (List.mem_of_getElem? (i := 3) rfl)) (hw _ (List.mem_of_getElem? (i := 4) rfl)) (hw _ (List.mem_of_getElem? (i := 2) rfl)) (hw _ (List.mem_of_getElem? (i := 5) rfl)) (by decide) (W := 1) (a := a8) (argsL := [(.long x0), (.long x1)]) (rest := [(.ref a8)]) (rm1 l Z a0 hw a8 x0 x1 (0 : Int64) (0 : Int64) (0 : Int64) (0 : Int64) (0 : Int64) (0 : Int64) (0 : Int64) (0 : Int32) _ n0 I) (by decide) (by decide) (by decide) (by decide) rfl (by rw [hml]; rfl) (lenOf pd_1 rfl) rfl (by show 2 * 0 + _ ≤ _; exact Nat.le_of_eq rfl) (hb hby at_93) ?_
    intro T9 L9 v X' hq
    obtain ⟨rfl, N', I'⟩ := hq
    replace I := I'
    replace N := Fr.app N N'
    replace X : Stand p l e room_1 s m #[(.long p0), (.long p1), (.int p2), (.int p3)] below meth c T9 _ 2 16 := X'
    clear X' N' I'
    show own_E p e below Qq T9 (mkF m 96 #[.val (.long x0), .second, .val (.long x1), .second, .val (.int x2), .val (.int x3), .val (.ref xa), .val (.long y4), .second, .unset, .unset, .unset, .unset, .unset, .unset] [(.ref a8)])
    exact B96 _ _ x0 x1 x2 x3 xa y4 a8 (F1_0 x0 x1 (0 : Int64) (0 : Int64) (0 : Int64) (0 : Int64) (0 : Int64) (0 : Int64) (0 : Int64) (0 : Int32)).1 (F1_0 x0 x1 (0 : Int64) (0 : Int64) (0 : Int64) (0 : Int64) (0 : Int64) (0 : Int64) (0 : Int64) (0 : Int32)).2.1 (F1_0 x0 x1 (0 : Int64) (0 : Int64) (0 : Int64) (0 : Int64) (0 : Int64) (0 : Int64) (0 : Int64) (0 : Int32)).2.2.1 (F1_0 x0 x1 (0 : Int64) (0 : Int64) (0 : Int64) (0 : Int64) (0 : Int64) (0 : Int64) (0 : Int64) (0 : Int32)).2.2.2.1 (F1_0 x0 x1 (0 : Int64) (0 : Int64) (0 : Int64) (0 : Int64) (0 : Int64) (0 : Int64) (0 : Int64) (0 : Int32)).2.2.2.2.1 (F1_0 x0 x1 (0 : Int64) (0 : Int64) (0 : Int64) (0 : Int64) (0 : Int64) (0 : Int64) (0 : Int64) (0 : Int32)).2.2.2.2.2.1 (F1_0 x0 x1 (0 : Int64) (0 : Int64) (0 : Int64) (0 : Int64) (0 : Int64) (0 : Int64) (0 : Int64) (0 : Int32)).2.2.2.2.2.2.1 (F1_0 x0 x1 (0 : Int64) (0 : Int64) (0 : Int64) (0 : Int64) (0 : Int64) (0 : Int64) (0 : Int64) (0 : Int32)).2.2.2.2.2.2.2 X I N hF
  have B80 : ∀ (T : State) (L : List Loc) (x0 : Int64) (x1 : Int64) (x2 : Int32) (x3 : Int32) (xa : Addr) (g_key0 : Int64) (g_key1 : Int64) (g_v0 : Int64) (g_v1 : Int64) (g_v2 : Int64) (g_v3 : Int64) (g_word : Int64) (g_length : Int32), Stand p l e room_1 s m #[(.long p0), (.long p1), (.int p2), (.int p3)] below meth c T L 1 8 → own_I Z n0 T.heap xa g_key0 g_key1 g_v0 g_v1 g_v2 g_v3 g_word g_length → Fr n0 L → w = F0_80 x0 x1 x2 x3 g_key0 g_key1 g_v0 g_v1 g_v2 g_v3 g_word g_length → own_E p e below Qq T (mkF m 80 #[.val (.long x0), .second, .val (.long x1), .second, .val (.int x2), .val (.int x3), .val (.ref xa), .unset, .unset, .unset, .unset, .unset, .unset, .unset, .unset] []) := by
    intro T L x0 x1 x2 x3 xa g_key0 g_key1 g_v0 g_v1 g_v2 g_v3 g_word g_length X I N hF
    refine own_st (fun _ => XS.aload X.here hx rfl (hb hby at_80) rfl rfl) ?_
    show own_E p e below Qq T (mkF m 82 #[.val (.long x0), .second, .val (.long x1), .second, .val (.int x2), .val (.int x3), .val (.ref xa), .unset, .unset, .unset, .unset, .unset, .unset, .unset, .unset] [(.ref xa)])
    refine own_callV X hx hZ hown (hw _ (List.mem_of_getElem? (i := 35) rfl)) (hw _ (List.mem_of_getElem? (i := 36) rfl)) (hw _ (List.mem_of_getElem? (i := 38) rfl)) (hw _ (List.mem_of_getElem? (i := 37) rfl)) (hw _ (List.mem_of_getElem? (i := 2) rfl)) (hw _ (List.mem_of_getElem? (i := 39) rfl)) (by decide) (own_Iex I) (W := 0) (argsL := []) (rest := []) (rm4 l Z a0 hw xa g_key0 g_key1 g_v0 g_v1 g_v2 g_v3 g_word g_length _ n0 I) (by decide) (by decide) (by decide) (by decide) rfl (by rw [hml]; rfl) (lenOf pd_4 rfl) rfl (by show 2 * 0 + _ ≤ _; exact Nat.le_of_eq rfl) (hb hby at_82) ?_
    intro T10 L10 v X' hq
    obtain ⟨rfl, N', I'⟩ := hq
    replace I := I'
    replace N := Fr.app N N'
    replace X : Stand p l e room_1 s m #[(.long p0), (.long p1), (.int p2), (.int p3)] below meth c T10 _ 1 8 := X'
    clear X' N' I'
    show own_E p e below Qq T10 (mkF m 85 #[.val (.long x0), .second, .val (.long x1), .second, .val (.int x2), .val (.int x3), .val (.ref xa), .unset, .unset, .unset, .unset, .unset, .unset, .unset, .unset] [(.long (F4_0 g_key0 g_key1 g_v0 g_v1 g_v2 g_v3 g_word g_length).1)])
    exact B85 _ _ x0 x1 x2 x3 (F4_0 g_key0 g_key1 g_v0 g_v1 g_v2 g_v3 g_word g_length).1 xa g_key0 g_key1 (F4_0 g_key0 g_key1 g_v0 g_v1 g_v2 g_v3 g_word g_length).2.1 (F4_0 g_key0 g_key1 g_v0 g_v1 g_v2 g_v3 g_word g_length).2.2.1 (F4_0 g_key0 g_key1 g_v0 g_v1 g_v2 g_v3 g_word g_length).2.2.2.1 (F4_0 g_key0 g_key1 g_v0 g_v1 g_v2 g_v3 g_word g_length).2.2.2.2 g_word g_length X I N hF
  have B65 : ∀ (T : State) (L : List Loc) (x0 : Int64) (x1 : Int64) (x2 : Int32) (x3 : Int32) (xa : Addr) (g_key0 : Int64) (g_key1 : Int64) (g_v0 : Int64) (g_v1 : Int64) (g_v2 : Int64) (g_v3 : Int64) (g_word : Int64) (g_length : Int32), Stand p l e room_1 s m #[(.long p0), (.long p1), (.int p2), (.int p3)] below meth c T L 1 8 → own_I Z n0 T.heap xa g_key0 g_key1 g_v0 g_v1 g_v2 g_v3 g_word g_length → Fr n0 L → w = F0_65 x0 x1 x2 x3 g_key0 g_key1 g_v0 g_v1 g_v2 g_v3 g_word g_length → own_E p e below Qq T (mkF m 65 #[.val (.long x0), .second, .val (.long x1), .second, .val (.int x2), .val (.int x3), .val (.ref xa), .unset, .unset, .unset, .unset, .unset, .unset, .unset, .unset] []) := by
    intro T L x0 x1 x2 x3 xa g_key0 g_key1 g_v0 g_v1 g_v2 g_v3 g_word g_length X I N hF
    refine own_st (fun _ => XS.iload X.here hx rfl (hb hby at_65) rfl) ?_
    show own_E p e below Qq T (mkF m 67 #[.val (.long x0), .second, .val (.long x1), .second, .val (.int x2), .val (.int x3), .val (.ref xa), .unset, .unset, .unset, .unset, .unset, .unset, .unset, .unset] [(.int x2)])
    refine own_st (fun _ => XS.bipush X.here hx rfl (hb hby at_67)) ?_
    show own_E p e below Qq T (mkF m 69 #[.val (.long x0), .second, .val (.long x1), .second, .val (.int x2), .val (.int x3), .val (.ref xa), .unset, .unset, .unset, .unset, .unset, .unset, .unset, .unset] [(.int (8 : Int32)), (.int x2)])
    refine own_st (fun _ => XS.iand X.here hx rfl (hb hby at_69) rfl) ?_
    show own_E p e below Qq T (mkF m 70 #[.val (.long x0), .second, .val (.long x1), .second, .val (.int x2), .val (.int x3), .val (.ref xa), .unset, .unset, .unset, .unset, .unset, .unset, .unset, .unset] [(.int (x2 &&& (8 : Int32)))])
    by_cases q70 : (x2 &&& (8 : Int32)) = (0 : Int32)
    · replace hF := hF.trans (if_pos q70)
      refine own_st (fun _ => XS.ifYes X.here hx rfl (pc0 := 70) (pc' := 80) rfl (hb hby at_70) rfl (XT.i0_eq_t q70) (by decide) (by decide)) ?_
      show own_E p e below Qq T (mkF m 80 #[.val (.long x0), .second, .val (.long x1), .second, .val (.int x2), .val (.int x3), .val (.ref xa), .unset, .unset, .unset, .unset, .unset, .unset, .unset, .unset] [])
      exact B80 _ _ x0 x1 x2 x3 xa g_key0 g_key1 g_v0 g_v1 g_v2 g_v3 g_word g_length X I N hF
    · replace hF := hF.trans (if_neg q70)
      refine own_st (fun _ => XS.ifNo X.here hx rfl (hb hby at_70) rfl (XT.i0_eq_f q70)) ?_
      show own_E p e below Qq T (mkF m 73 #[.val (.long x0), .second, .val (.long x1), .second, .val (.int x2), .val (.int x3), .val (.ref xa), .unset, .unset, .unset, .unset, .unset, .unset, .unset, .unset] [])
      refine own_st (fun _ => XS.aload X.here hx rfl (hb hby at_73) rfl rfl) ?_
      show own_E p e below Qq T (mkF m 75 #[.val (.long x0), .second, .val (.long x1), .second, .val (.int x2), .val (.int x3), .val (.ref xa), .unset, .unset, .unset, .unset, .unset, .unset, .unset, .unset] [(.ref xa)])
      refine own_st (fun _ => XS.iload X.here hx rfl (hb hby at_75) rfl) ?_
      show own_E p e below Qq T (mkF m 77 #[.val (.long x0), .second, .val (.long x1), .second, .val (.int x2), .val (.int x3), .val (.ref xa), .unset, .unset, .unset, .unset, .unset, .unset, .unset, .unset] [(.int x3), (.ref xa)])
      refine own_callV X hx hZ hown (hw _ (List.mem_of_getElem? (i := 56) rfl)) (hw _ (List.mem_of_getElem? (i := 57) rfl)) (hw _ (List.mem_of_getElem? (i := 59) rfl)) (hw _ (List.mem_of_getElem? (i := 58) rfl)) (hw _ (List.mem_of_getElem? (i := 2) rfl)) (hw _ (List.mem_of_getElem? (i := 60) rfl)) (by decide) (own_Iex I) (W := 0) (argsL := [(.int x3)]) (rest := []) (rm8 l Z a0 hw xa x3 g_key0 g_key1 g_v0 g_v1 g_v2 g_v3 g_word g_length _ n0 I) (by decide) (by decide) (by decide) (by decide) rfl (by rw [hml]; rfl) (lenOf pd_9 rfl) rfl (by show 2 * 0 + _ ≤ _; exact Nat.le_of_eq rfl) (hb hby at_77) ?_
      intro T11 L11 v X' hq
      obtain ⟨rfl, N', I'⟩ := hq
      replace I := I'
      replace N := Fr.app N N'
      replace X : Stand p l e room_1 s m #[(.long p0), (.long p1), (.int p2), (.int p3)] below meth c T11 _ 1 8 := X'
      clear X' N' I'
      show own_E p e below Qq T11 (mkF m 80 #[.val (.long x0), .second, .val (.long x1), .second, .val (.int x2), .val (.int x3), .val (.ref xa), .unset, .unset, .unset, .unset, .unset, .unset, .unset, .unset] [])
      exact B80 _ _ x0 x1 x2 x3 xa g_key0 g_key1 (F8_0 x3 g_key0 g_key1 g_v0 g_v1 g_v2 g_v3 g_word g_length).1 (F8_0 x3 g_key0 g_key1 g_v0 g_v1 g_v2 g_v3 g_word g_length).2.1 (F8_0 x3 g_key0 g_key1 g_v0 g_v1 g_v2 g_v3 g_word g_length).2.2.1 (F8_0 x3 g_key0 g_key1 g_v0 g_v1 g_v2 g_v3 g_word g_length).2.2.2.1 (F8_0 x3 g_key0 g_key1 g_v0 g_v1 g_v2 g_v3 g_word g_length).2.2.2.2.1 (F8_0 x3 g_key0 g_key1 g_v0 g_v1 g_v2 g_v3 g_word g_length).2.2.2.2.2 X I N hF
  have B60 : ∀ (T : State) (L : List Loc) (x0 : Int64) (x1 : Int64) (x2 : Int32) (x3 : Int32) (xa : Addr) (g_key0 : Int64) (g_key1 : Int64) (g_v0 : Int64) (g_v1 : Int64) (g_v2 : Int64) (g_v3 : Int64) (g_word : Int64) (g_length : Int32), Stand p l e room_1 s m #[(.long p0), (.long p1), (.int p2), (.int p3)] below meth c T L 1 8 → own_I Z n0 T.heap xa g_key0 g_key1 g_v0 g_v1 g_v2 g_v3 g_word g_length → Fr n0 L → w = F0_60 x0 x1 x2 x3 g_key0 g_key1 g_v0 g_v1 g_v2 g_v3 g_word g_length → own_E p e below Qq T (mkF m 60 #[.val (.long x0), .second, .val (.long x1), .second, .val (.int x2), .val (.int x3), .val (.ref xa), .unset, .unset, .unset, .unset, .unset, .unset, .unset, .unset] []) := by
    intro T L x0 x1 x2 x3 xa g_key0 g_key1 g_v0 g_v1 g_v2 g_v3 g_word g_length X I N hF
    refine own_st (fun _ => XS.aload X.here hx rfl (hb hby at_60) rfl rfl) ?_
    show own_E p e below Qq T (mkF m 62 #[.val (.long x0), .second, .val (.long x1), .second, .val (.int x2), .val (.int x3), .val (.ref xa), .unset, .unset, .unset, .unset, .unset, .unset, .unset, .unset] [(.ref xa)])
    refine own_callV X hx hZ hown (hw _ (List.mem_of_getElem? (i := 34) rfl)) (hw _ (List.mem_of_getElem? (i := 14) rfl)) (hw _ (List.mem_of_getElem? (i := 16) rfl)) (hw _ (List.mem_of_getElem? (i := 15) rfl)) (hw _ (List.mem_of_getElem? (i := 2) rfl)) (hw _ (List.mem_of_getElem? (i := 17) rfl)) (by decide) (own_Iex I) (W := 0) (argsL := []) (rest := []) (rm3 l Z a0 hw xa g_key0 g_key1 g_v0 g_v1 g_v2 g_v3 g_word g_length _ n0 I) (by decide) (by decide) (by decide) (by decide) rfl (by rw [hml]; rfl) (lenOf pd_3 rfl) rfl (by show 2 * 0 + _ ≤ _; exact Nat.le_of_eq rfl) (hb hby at_62) ?_
    intro T12 L12 v X' hq
    obtain ⟨rfl, N', I'⟩ := hq
    replace I := I'
    replace N := Fr.app N N'
    replace X : Stand p l e room_1 s m #[(.long p0), (.long p1), (.int p2), (.int p3)] below meth c T12 _ 1 8 := X'
    clear X' N' I'
    show own_E p e below Qq T12 (mkF m 65 #[.val (.long x0), .second, .val (.long x1), .second, .val (.int x2), .val (.int x3), .val (.ref xa), .unset, .unset, .unset, .unset, .unset, .unset, .unset, .unset] [])
    exact B65 _ _ x0 x1 x2 x3 xa g_key0 g_key1 (F3_0 g_key0 g_key1 g_v0 g_v1 g_v2 g_v3 g_word g_length).1 (F3_0 g_key0 g_key1 g_v0 g_v1 g_v2 g_v3 g_word g_length).2.1 (F3_0 g_key0 g_key1 g_v0 g_v1 g_v2 g_v3 g_word g_length).2.2.1 (F3_0 g_key0 g_key1 g_v0 g_v1 g_v2 g_v3 g_word g_length).2.2.2.1 (F3_0 g_key0 g_key1 g_v0 g_v1 g_v2 g_v3 g_word g_length).2.2.2.2.1 (F3_0 g_key0 g_key1 g_v0 g_v1 g_v2 g_v3 g_word g_length).2.2.2.2.2 X I N hF
  have B59 : ∀ (T : State) (L : List Loc) (x0 : Int64) (x1 : Int64) (x2 : Int32) (x3 : Int32) (y4 : Int64) (xa : Addr) (g_key0 : Int64) (g_key1 : Int64) (g_v0 : Int64) (g_v1 : Int64) (g_v2 : Int64) (g_v3 : Int64) (g_word : Int64) (g_length : Int32), Stand p l e room_1 s m #[(.long p0), (.long p1), (.int p2), (.int p3)] below meth c T L 1 8 → own_I Z n0 T.heap xa g_key0 g_key1 g_v0 g_v1 g_v2 g_v3 g_word g_length → Fr n0 L → w = F0_59 x0 x1 x2 x3 y4 g_key0 g_key1 g_v0 g_v1 g_v2 g_v3 g_word g_length → own_E p e below Qq T (mkF m 59 #[.val (.long x0), .second, .val (.long x1), .second, .val (.int x2), .val (.int x3), .val (.ref xa), .unset, .unset, .unset, .unset, .unset, .unset, .unset, .unset] [(.long y4)]) := by
    intro T L x0 x1 x2 x3 y4 xa g_key0 g_key1 g_v0 g_v1 g_v2 g_v3 g_word g_length X I N hF
    refine own_st (fun _ => own_pop2L X.here hx rfl (hb hby at_59) rfl) ?_
    show own_E p e below Qq T (mkF m 60 #[.val (.long x0), .second, .val (.long x1), .second, .val (.int x2), .val (.int x3), .val (.ref xa), .unset, .unset, .unset, .unset, .unset, .unset, .unset, .unset] [])
    exact B60 _ _ x0 x1 x2 x3 xa g_key0 g_key1 g_v0 g_v1 g_v2 g_v3 g_word g_length X I N hF
  have B47 : ∀ (T : State) (L : List Loc) (x0 : Int64) (x1 : Int64) (x2 : Int32) (x3 : Int32) (xa : Addr) (g_key0 : Int64) (g_key1 : Int64) (g_v0 : Int64) (g_v1 : Int64) (g_v2 : Int64) (g_v3 : Int64) (g_word : Int64) (g_length : Int32), Stand p l e room_1 s m #[(.long p0), (.long p1), (.int p2), (.int p3)] below meth c T L 1 8 → own_I Z n0 T.heap xa g_key0 g_key1 g_v0 g_v1 g_v2 g_v3 g_word g_length → Fr n0 L → w = F0_47 x0 x1 x2 x3 g_key0 g_key1 g_v0 g_v1 g_v2 g_v3 g_word g_length → own_E p e below Qq T (mkF m 47 #[.val (.long x0), .second, .val (.long x1), .second, .val (.int x2), .val (.int x3), .val (.ref xa), .unset, .unset, .unset, .unset, .unset, .unset, .unset, .unset] []) := by
    intro T L x0 x1 x2 x3 xa g_key0 g_key1 g_v0 g_v1 g_v2 g_v3 g_word g_length X I N hF
    refine own_st (fun _ => XS.iload X.here hx rfl (hb hby at_47) rfl) ?_
    show own_E p e below Qq T (mkF m 49 #[.val (.long x0), .second, .val (.long x1), .second, .val (.int x2), .val (.int x3), .val (.ref xa), .unset, .unset, .unset, .unset, .unset, .unset, .unset, .unset] [(.int x2)])
    refine own_st (fun _ => XS.iconst X.here hx rfl (hb hby at_49)) ?_
    show own_E p e below Qq T (mkF m 50 #[.val (.long x0), .second, .val (.long x1), .second, .val (.int x2), .val (.int x3), .val (.ref xa), .unset, .unset, .unset, .unset, .unset, .unset, .unset, .unset] [(.int (4 : Int32)), (.int x2)])
    refine own_st (fun _ => XS.iand X.here hx rfl (hb hby at_50) rfl) ?_
    show own_E p e below Qq T (mkF m 51 #[.val (.long x0), .second, .val (.long x1), .second, .val (.int x2), .val (.int x3), .val (.ref xa), .unset, .unset, .unset, .unset, .unset, .unset, .unset, .unset] [(.int (x2 &&& (4 : Int32)))])
    by_cases q51 : (x2 &&& (4 : Int32)) = (0 : Int32)
    · replace hF := hF.trans (if_pos q51)
      refine own_st (fun _ => XS.ifYes X.here hx rfl (pc0 := 51) (pc' := 60) rfl (hb hby at_51) rfl (XT.i0_eq_t q51) (by decide) (by decide)) ?_
      show own_E p e below Qq T (mkF m 60 #[.val (.long x0), .second, .val (.long x1), .second, .val (.int x2), .val (.int x3), .val (.ref xa), .unset, .unset, .unset, .unset, .unset, .unset, .unset, .unset] [])
      exact B60 _ _ x0 x1 x2 x3 xa g_key0 g_key1 g_v0 g_v1 g_v2 g_v3 g_word g_length X I N hF
    · replace hF := hF.trans (if_neg q51)
      refine own_st (fun _ => XS.ifNo X.here hx rfl (hb hby at_51) rfl (XT.i0_eq_f q51)) ?_
      show own_E p e below Qq T (mkF m 54 #[.val (.long x0), .second, .val (.long x1), .second, .val (.int x2), .val (.int x3), .val (.ref xa), .unset, .unset, .unset, .unset, .unset, .unset, .unset, .unset] [])
      refine own_st (fun _ => XS.aload X.here hx rfl (hb hby at_54) rfl rfl) ?_
      show own_E p e below Qq T (mkF m 56 #[.val (.long x0), .second, .val (.long x1), .second, .val (.int x2), .val (.int x3), .val (.ref xa), .unset, .unset, .unset, .unset, .unset, .unset, .unset, .unset] [(.ref xa)])
      refine own_callV X hx hZ hown (hw _ (List.mem_of_getElem? (i := 35) rfl)) (hw _ (List.mem_of_getElem? (i := 36) rfl)) (hw _ (List.mem_of_getElem? (i := 38) rfl)) (hw _ (List.mem_of_getElem? (i := 37) rfl)) (hw _ (List.mem_of_getElem? (i := 2) rfl)) (hw _ (List.mem_of_getElem? (i := 39) rfl)) (by decide) (own_Iex I) (W := 0) (argsL := []) (rest := []) (rm4 l Z a0 hw xa g_key0 g_key1 g_v0 g_v1 g_v2 g_v3 g_word g_length _ n0 I) (by decide) (by decide) (by decide) (by decide) rfl (by rw [hml]; rfl) (lenOf pd_4 rfl) rfl (by show 2 * 0 + _ ≤ _; exact Nat.le_of_eq rfl) (hb hby at_56) ?_
      intro T13 L13 v X' hq
      obtain ⟨rfl, N', I'⟩ := hq
      replace I := I'
      replace N := Fr.app N N'
      replace X : Stand p l e room_1 s m #[(.long p0), (.long p1), (.int p2), (.int p3)] below meth c T13 _ 1 8 := X'
      clear X' N' I'
      show own_E p e below Qq T13 (mkF m 59 #[.val (.long x0), .second, .val (.long x1), .second, .val (.int x2), .val (.int x3), .val (.ref xa), .unset, .unset, .unset, .unset, .unset, .unset, .unset, .unset] [(.long (F4_0 g_key0 g_key1 g_v0 g_v1 g_v2 g_v3 g_word g_length).1)])
      exact B59 _ _ x0 x1 x2 x3 (F4_0 g_key0 g_key1 g_v0 g_v1 g_v2 g_v3 g_word g_length).1 xa g_key0 g_key1 (F4_0 g_key0 g_key1 g_v0 g_v1 g_v2 g_v3 g_word g_length).2.1 (F4_0 g_key0 g_key1 g_v0 g_v1 g_v2 g_v3 g_word g_length).2.2.1 (F4_0 g_key0 g_key1 g_v0 g_v1 g_v2 g_v3 g_word g_length).2.2.2.1 (F4_0 g_key0 g_key1 g_v0 g_v1 g_v2 g_v3 g_word g_length).2.2.2.2 g_word g_length X I N hF
  have B28 : ∀ (T : State) (L : List Loc) (x0 : Int64) (x1 : Int64) (x2 : Int32) (x3 : Int32) (xa : Addr) (g_key0 : Int64) (g_key1 : Int64) (g_v0 : Int64) (g_v1 : Int64) (g_v2 : Int64) (g_v3 : Int64) (g_word : Int64) (g_length : Int32), Stand p l e room_1 s m #[(.long p0), (.long p1), (.int p2), (.int p3)] below meth c T L 1 8 → own_I Z n0 T.heap xa g_key0 g_key1 g_v0 g_v1 g_v2 g_v3 g_word g_length → Fr n0 L → w = F0_28 x0 x1 x2 x3 g_key0 g_key1 g_v0 g_v1 g_v2 g_v3 g_word g_length → own_E p e below Qq T (mkF m 28 #[.val (.long x0), .second, .val (.long x1), .second, .val (.int x2), .val (.int x3), .val (.ref xa), .unset, .unset, .unset, .unset, .unset, .unset, .unset, .unset] []) := by
    intro T L x0 x1 x2 x3 xa g_key0 g_key1 g_v0 g_v1 g_v2 g_v3 g_word g_length X I N hF
    refine own_st (fun _ => XS.iload X.here hx rfl (hb hby at_28) rfl) ?_
    show own_E p e below Qq T (mkF m 30 #[.val (.long x0), .second, .val (.long x1), .second, .val (.int x2), .val (.int x3), .val (.ref xa), .unset, .unset, .unset, .unset, .unset, .unset, .unset, .unset] [(.int x2)])
    refine own_st (fun _ => XS.iconst X.here hx rfl (hb hby at_30)) ?_
    show own_E p e below Qq T (mkF m 31 #[.val (.long x0), .second, .val (.long x1), .second, .val (.int x2), .val (.int x3), .val (.ref xa), .unset, .unset, .unset, .unset, .unset, .unset, .unset, .unset] [(.int (2 : Int32)), (.int x2)])
    refine own_st (fun _ => XS.iand X.here hx rfl (hb hby at_31) rfl) ?_
    show own_E p e below Qq T (mkF m 32 #[.val (.long x0), .second, .val (.long x1), .second, .val (.int x2), .val (.int x3), .val (.ref xa), .unset, .unset, .unset, .unset, .unset, .unset, .unset, .unset] [(.int (x2 &&& (2 : Int32)))])
    by_cases q32 : (x2 &&& (2 : Int32)) = (0 : Int32)
    · replace hF := hF.trans (if_pos q32)
      refine own_st (fun _ => XS.ifYes X.here hx rfl (pc0 := 32) (pc' := 47) rfl (hb hby at_32) rfl (XT.i0_eq_t q32) (by decide) (by decide)) ?_
      show own_E p e below Qq T (mkF m 47 #[.val (.long x0), .second, .val (.long x1), .second, .val (.int x2), .val (.int x3), .val (.ref xa), .unset, .unset, .unset, .unset, .unset, .unset, .unset, .unset] [])
      exact B47 _ _ x0 x1 x2 x3 xa g_key0 g_key1 g_v0 g_v1 g_v2 g_v3 g_word g_length X I N hF
    · replace hF := hF.trans (if_neg q32)
      refine own_st (fun _ => XS.ifNo X.here hx rfl (hb hby at_32) rfl (XT.i0_eq_f q32)) ?_
      show own_E p e below Qq T (mkF m 35 #[.val (.long x0), .second, .val (.long x1), .second, .val (.int x2), .val (.int x3), .val (.ref xa), .unset, .unset, .unset, .unset, .unset, .unset, .unset, .unset] [])
      refine own_st (fun _ => XS.aload X.here hx rfl (hb hby at_35) rfl rfl) ?_
      show own_E p e below Qq T (mkF m 37 #[.val (.long x0), .second, .val (.long x1), .second, .val (.int x2), .val (.int x3), .val (.ref xa), .unset, .unset, .unset, .unset, .unset, .unset, .unset, .unset] [(.ref xa)])
      refine own_st (fun _ => XT.lloadN X.here hx rfl (hb hby at_37) rfl) ?_
      show own_E p e below Qq T (mkF m 38 #[.val (.long x0), .second, .val (.long x1), .second, .val (.int x2), .val (.int x3), .val (.ref xa), .unset, .unset, .unset, .unset, .unset, .unset, .unset, .unset] [(.long x0), (.ref xa)])
      refine own_st (fun _ => XT.lloadN X.here hx rfl (hb hby at_38) rfl) ?_
      show own_E p e below Qq T (mkF m 39 #[.val (.long x0), .second, .val (.long x1), .second, .val (.int x2), .val (.int x3), .val (.ref xa), .unset, .unset, .unset, .unset, .unset, .unset, .unset, .unset] [(.long x1), (.long x0), (.ref xa)])
      refine own_st (fun _ => XT.lxor X.here hx rfl (hb hby at_39) rfl) ?_
      show own_E p e below Qq T (mkF m 40 #[.val (.long x0), .second, .val (.long x1), .second, .val (.int x2), .val (.int x3), .val (.ref xa), .unset, .unset, .unset, .unset, .unset, .unset, .unset, .unset] [(.long (x0 ^^^ x1)), (.ref xa)])
      refine own_st (fun _ => XS.iload X.here hx rfl (hb hby at_40) rfl) ?_
      show own_E p e below Qq T (mkF m 42 #[.val (.long x0), .second, .val (.long x1), .second, .val (.int x2), .val (.int x3), .val (.ref xa), .unset, .unset, .unset, .unset, .unset, .unset, .unset, .unset] [(.int x2), (.long (x0 ^^^ x1)), (.ref xa)])
      refine own_st (fun _ => XT.i2l X.here hx rfl (hb hby at_42) rfl) ?_
      show own_E p e below Qq T (mkF m 43 #[.val (.long x0), .second, .val (.long x1), .second, .val (.int x2), .val (.int x3), .val (.ref xa), .unset, .unset, .unset, .unset, .unset, .unset, .unset, .unset] [(.long (x2.toInt64)), (.long (x0 ^^^ x1)), (.ref xa)])
      refine own_st (fun _ => XT.lxor X.here hx rfl (hb hby at_43) rfl) ?_
      show own_E p e below Qq T (mkF m 44 #[.val (.long x0), .second, .val (.long x1), .second, .val (.int x2), .val (.int x3), .val (.ref xa), .unset, .unset, .unset, .unset, .unset, .unset, .unset, .unset] [(.long ((x0 ^^^ x1) ^^^ (x2.toInt64))), (.ref xa)])
      refine own_callV X hx hZ hown (hw _ (List.mem_of_getElem? (i := 67) rfl)) (hw _ (List.mem_of_getElem? (i := 68) rfl)) (hw _ (List.mem_of_getElem? (i := 70) rfl)) (hw _ (List.mem_of_getElem? (i := 69) rfl)) (hw _ (List.mem_of_getElem? (i := 2) rfl)) (hw _ (List.mem_of_getElem? (i := 71) rfl)) (by decide) (own_Iex I) (W := 0) (argsL := [(.long ((x0 ^^^ x1) ^^^ (x2.toInt64)))]) (rest := []) (rm10 l Z a0 hw xa ((x0 ^^^ x1) ^^^ (x2.toInt64)) g_key0 g_key1 g_v0 g_v1 g_v2 g_v3 g_word g_length _ n0 I) (by decide) (by decide) (by decide) (by decide) rfl (by rw [hml]; rfl) (lenOf pd_5 rfl) rfl (by show 2 * 0 + _ ≤ _; exact Nat.le_of_eq rfl) (hb hby at_44) ?_
      intro T14 L14 v X' hq
      obtain ⟨rfl, N', I'⟩ := hq
      replace I := I'
      replace N := Fr.app N N'
      replace X : Stand p l e room_1 s m #[(.long p0), (.long p1), (.int p2), (.int p3)] below meth c T14 _ 1 8 := X'
      clear X' N' I'
      show own_E p e below Qq T14 (mkF m 47 #[.val (.long x0), .second, .val (.long x1), .second, .val (.int x2), .val (.int x3), .val (.ref xa), .unset, .unset, .unset, .unset, .unset, .unset, .unset, .unset] [])
      exact B47 _ _ x0 x1 x2 x3 xa g_key0 g_key1 (F10_0 ((x0 ^^^ x1) ^^^ (x2.toInt64)) g_key0 g_key1 g_v0 g_v1 g_v2 g_v3 g_word g_length).1 (F10_0 ((x0 ^^^ x1) ^^^ (x2.toInt64)) g_key0 g_key1 g_v0 g_v1 g_v2 g_v3 g_word g_length).2.1 (F10_0 ((x0 ^^^ x1) ^^^ (x2.toInt64)) g_key0 g_key1 g_v0 g_v1 g_v2 g_v3 g_word g_length).2.2.1 (F10_0 ((x0 ^^^ x1) ^^^ (x2.toInt64)) g_key0 g_key1 g_v0 g_v1 g_v2 g_v3 g_word g_length).2.2.2.1 (F10_0 ((x0 ^^^ x1) ^^^ (x2.toInt64)) g_key0 g_key1 g_v0 g_v1 g_v2 g_v3 g_word g_length).2.2.2.2.1 (F10_0 ((x0 ^^^ x1) ^^^ (x2.toInt64)) g_key0 g_key1 g_v0 g_v1 g_v2 g_v3 g_word g_length).2.2.2.2.2 X I N hF
  have B9 : ∀ (T : State) (L : List Loc) (x0 : Int64) (x1 : Int64) (x2 : Int32) (x3 : Int32) (xa : Addr) (g_key0 : Int64) (g_key1 : Int64) (g_v0 : Int64) (g_v1 : Int64) (g_v2 : Int64) (g_v3 : Int64) (g_word : Int64) (g_length : Int32), Stand p l e room_1 s m #[(.long p0), (.long p1), (.int p2), (.int p3)] below meth c T L 1 8 → own_I Z n0 T.heap xa g_key0 g_key1 g_v0 g_v1 g_v2 g_v3 g_word g_length → Fr n0 L → w = F0_9 x0 x1 x2 x3 g_key0 g_key1 g_v0 g_v1 g_v2 g_v3 g_word g_length → own_E p e below Qq T (mkF m 9 #[.val (.long x0), .second, .val (.long x1), .second, .val (.int x2), .val (.int x3), .unset, .unset, .unset, .unset, .unset, .unset, .unset, .unset, .unset] [(.ref xa)]) := by
    intro T L x0 x1 x2 x3 xa g_key0 g_key1 g_v0 g_v1 g_v2 g_v3 g_word g_length X I N hF
    refine own_st (fun _ => XS.astore X.here hx rfl (hb hby at_9) rfl rfl (l' := #[.val (.long x0), .second, .val (.long x1), .second, .val (.int x2), .val (.int x3), .val (.ref xa), .unset, .unset, .unset, .unset, .unset, .unset, .unset, .unset]) rfl) ?_
    show own_E p e below Qq T (mkF m 11 #[.val (.long x0), .second, .val (.long x1), .second, .val (.int x2), .val (.int x3), .val (.ref xa), .unset, .unset, .unset, .unset, .unset, .unset, .unset, .unset] [])
    refine own_st (fun _ => XS.iload X.here hx rfl (hb hby at_11) rfl) ?_
    show own_E p e below Qq T (mkF m 13 #[.val (.long x0), .second, .val (.long x1), .second, .val (.int x2), .val (.int x3), .val (.ref xa), .unset, .unset, .unset, .unset, .unset, .unset, .unset, .unset] [(.int x2)])
    refine own_st (fun _ => XS.iconst X.here hx rfl (hb hby at_13)) ?_
    show own_E p e below Qq T (mkF m 14 #[.val (.long x0), .second, .val (.long x1), .second, .val (.int x2), .val (.int x3), .val (.ref xa), .unset, .unset, .unset, .unset, .unset, .unset, .unset, .unset] [(.int (1 : Int32)), (.int x2)])
    refine own_st (fun _ => XS.iand X.here hx rfl (hb hby at_14) rfl) ?_
    show own_E p e below Qq T (mkF m 15 #[.val (.long x0), .second, .val (.long x1), .second, .val (.int x2), .val (.int x3), .val (.ref xa), .unset, .unset, .unset, .unset, .unset, .unset, .unset, .unset] [(.int (x2 &&& (1 : Int32)))])
    by_cases q15 : (x2 &&& (1 : Int32)) = (0 : Int32)
    · replace hF := hF.trans (if_pos q15)
      refine own_st (fun _ => XS.ifYes X.here hx rfl (pc0 := 15) (pc' := 28) rfl (hb hby at_15) rfl (XT.i0_eq_t q15) (by decide) (by decide)) ?_
      show own_E p e below Qq T (mkF m 28 #[.val (.long x0), .second, .val (.long x1), .second, .val (.int x2), .val (.int x3), .val (.ref xa), .unset, .unset, .unset, .unset, .unset, .unset, .unset, .unset] [])
      exact B28 _ _ x0 x1 x2 x3 xa g_key0 g_key1 g_v0 g_v1 g_v2 g_v3 g_word g_length X I N hF
    · replace hF := hF.trans (if_neg q15)
      refine own_st (fun _ => XS.ifNo X.here hx rfl (hb hby at_15) rfl (XT.i0_eq_f q15)) ?_
      show own_E p e below Qq T (mkF m 18 #[.val (.long x0), .second, .val (.long x1), .second, .val (.int x2), .val (.int x3), .val (.ref xa), .unset, .unset, .unset, .unset, .unset, .unset, .unset, .unset] [])
      refine own_st (fun _ => XS.aload X.here hx rfl (hb hby at_18) rfl rfl) ?_
      show own_E p e below Qq T (mkF m 20 #[.val (.long x0), .second, .val (.long x1), .second, .val (.int x2), .val (.int x3), .val (.ref xa), .unset, .unset, .unset, .unset, .unset, .unset, .unset, .unset] [(.ref xa)])
      refine own_st (fun _ => XS.iload X.here hx rfl (hb hby at_20) rfl) ?_
      show own_E p e below Qq T (mkF m 22 #[.val (.long x0), .second, .val (.long x1), .second, .val (.int x2), .val (.int x3), .val (.ref xa), .unset, .unset, .unset, .unset, .unset, .unset, .unset, .unset] [(.int x2), (.ref xa)])
      refine own_st (fun _ => XS.bipush X.here hx rfl (hb hby at_22)) ?_
      show own_E p e below Qq T (mkF m 24 #[.val (.long x0), .second, .val (.long x1), .second, .val (.int x2), .val (.int x3), .val (.ref xa), .unset, .unset, .unset, .unset, .unset, .unset, .unset, .unset] [(.int (8 : Int32)), (.int x2), (.ref xa)])
      refine own_st (fun _ => XT.iushr X.here hx rfl (hb hby at_24) rfl) ?_
      show own_E p e below Qq T (mkF m 25 #[.val (.long x0), .second, .val (.long x1), .second, .val (.int x2), .val (.int x3), .val (.ref xa), .unset, .unset, .unset, .unset, .unset, .unset, .unset, .unset] [(.int (XT.ushr x2 (8 : Int32))), (.ref xa)])
      refine own_callV X hx hZ hown (hw _ (List.mem_of_getElem? (i := 66) rfl)) (hw _ (List.mem_of_getElem? (i := 62) rfl)) (hw _ (List.mem_of_getElem? (i := 64) rfl)) (hw _ (List.mem_of_getElem? (i := 63) rfl)) (hw _ (List.mem_of_getElem? (i := 2) rfl)) (hw _ (List.mem_of_getElem? (i := 65) rfl)) (by decide) (own_Iex I) (W := 0) (argsL := [(.int (XT.ushr x2 (8 : Int32)))]) (rest := []) (rm9 l Z a0 hw xa (XT.ushr x2 (8 : Int32)) g_key0 g_key1 g_v0 g_v1 g_v2 g_v3 g_word g_length _ n0 I) (by decide) (by decide) (by decide) (by decide) rfl (by rw [hml]; rfl) (lenOf pd_9 rfl) rfl (by show 2 * 0 + _ ≤ _; exact Nat.le_of_eq rfl) (hb hby at_25) ?_
      intro T15 L15 v X' hq
      obtain ⟨rfl, N', I'⟩ := hq
      replace I := I'
      replace N := Fr.app N N'
      replace X : Stand p l e room_1 s m #[(.long p0), (.long p1), (.int p2), (.int p3)] below meth c T15 _ 1 8 := X'
      clear X' N' I'
      show own_E p e below Qq T15 (mkF m 28 #[.val (.long x0), .second, .val (.long x1), .second, .val (.int x2), .val (.int x3), .val (.ref xa), .unset, .unset, .unset, .unset, .unset, .unset, .unset, .unset] [])
      exact B28 _ _ x0 x1 x2 x3 xa g_key0 g_key1 (F9_0 (XT.ushr x2 (8 : Int32)) g_key0 g_key1 g_v0 g_v1 g_v2 g_v3 g_word g_length).1 (F9_0 (XT.ushr x2 (8 : Int32)) g_key0 g_key1 g_v0 g_v1 g_v2 g_v3 g_word g_length).2.1 (F9_0 (XT.ushr x2 (8 : Int32)) g_key0 g_key1 g_v0 g_v1 g_v2 g_v3 g_word g_length).2.2.1 (F9_0 (XT.ushr x2 (8 : Int32)) g_key0 g_key1 g_v0 g_v1 g_v2 g_v3 g_word g_length).2.2.2.1 (F9_0 (XT.ushr x2 (8 : Int32)) g_key0 g_key1 g_v0 g_v1 g_v2 g_v3 g_word g_length).2.2.2.2.1 (F9_0 (XT.ushr x2 (8 : Int32)) g_key0 g_key1 g_v0 g_v1 g_v2 g_v3 g_word g_length).2.2.2.2.2 X I N hF
  show own_E p e below Qq T (mkF m 0 #[.val (.long p0), .second, .val (.long p1), .second, .val (.int p2), .val (.int p3), .unset, .unset, .unset, .unset, .unset, .unset, .unset, .unset, .unset] [])
  obtain ⟨T16, h16, X16, e16, E16, A16, D16, -, st16⟩ := newO X hx hZ hown (hw _ (List.mem_of_getElem? (i := 0) rfl)) (hw _ (List.mem_of_getElem? (i := 1) rfl)) (hw _ (List.mem_of_getElem? (i := 2) rfl)) rfl (g := (mkF m 0 #[.val (.long p0), .second, .val (.long p1), .second, .val (.int p2), .val (.int p3), .unset, .unset, .unset, .unset, .unset, .unset, .unset, .unset, .unset] [])) rfl (hb hby at_0) (by decide) (by decide)
  obtain ⟨a16, ga16⟩ : ∃ z, z = T.heap.size := ⟨_, rfl⟩
  rw [← ga16] at A16 D16 st16
  subst e16
  have I' := own_Inew hw (Nat.le_trans Z0 (Nat.le_of_eq ga16.symm)) A16 @D16
  have I := I'
  refine own_st st16 ?_
  replace X := X16
  clear I' st16 X16 A16 D16 E16
  show own_E p e below Qq T16 (mkF m 3 #[.val (.long p0), .second, .val (.long p1), .second, .val (.int p2), .val (.int p3), .unset, .unset, .unset, .unset, .unset, .unset, .unset, .unset, .unset] [(.ref a16)])
  refine own_st (fun _ => XS.dup X.here hx rfl (hb hby at_3) rfl rfl) ?_
  show own_E p e below Qq T16 (mkF m 4 #[.val (.long p0), .second, .val (.long p1), .second, .val (.int p2), .val (.int p3), .unset, .unset, .unset, .unset, .unset, .unset, .unset, .unset, .unset] [(.ref a16), (.ref a16)])
  refine own_st (fun _ => XT.lloadN X.here hx rfl (hb hby at_4) rfl) ?_
  show own_E p e below Qq T16 (mkF m 5 #[.val (.long p0), .second, .val (.long p1), .second, .val (.int p2), .val (.int p3), .unset, .unset, .unset, .unset, .unset, .unset, .unset, .unset, .unset] [(.long p0), (.ref a16), (.ref a16)])
  refine own_st (fun _ => XT.lloadN X.here hx rfl (hb hby at_5) rfl) ?_
  show own_E p e below Qq T16 (mkF m 6 #[.val (.long p0), .second, .val (.long p1), .second, .val (.int p2), .val (.int p3), .unset, .unset, .unset, .unset, .unset, .unset, .unset, .unset, .unset] [(.long p1), (.long p0), (.ref a16), (.ref a16)])
  refine own_callC X hx hZ (y := (⟨"com/example/tomekeeper/tomekeeper/tome/SipHash", "<init>", "(JJ)V"⟩ : MethodName)) rfl hown (hw _ (List.mem_of_getElem? (i := 3) rfl)) (hw _ (List.mem_of_getElem? (i := 4) rfl)) (hw _ (List.mem_of_getElem? (i := 2) rfl)) (hw _ (List.mem_of_getElem? (i := 5) rfl)) (by decide) (W := 1) (a := a16) (argsL := [(.long p0), (.long p1)]) (rest := [(.ref a16)]) (rm1 l Z a0 hw a16 p0 p1 (0 : Int64) (0 : Int64) (0 : Int64) (0 : Int64) (0 : Int64) (0 : Int64) (0 : Int64) (0 : Int32) _ n0 I) (by decide) (by decide) (by decide) (by decide) rfl (by rw [hml]; rfl) (lenOf pd_1 rfl) rfl (by show 2 * 0 + _ ≤ _; exact Nat.le_of_eq rfl) (hb hby at_6) ?_
  intro T17 L17 v X' hq
  obtain ⟨rfl, N', I'⟩ := hq
  replace I := I'
  replace N := Fr.app N N'
  replace X : Stand p l e room_1 s m #[(.long p0), (.long p1), (.int p2), (.int p3)] below meth c T17 _ 1 8 := X'
  clear X' N' I'
  show own_E p e below Qq T17 (mkF m 9 #[.val (.long p0), .second, .val (.long p1), .second, .val (.int p2), .val (.int p3), .unset, .unset, .unset, .unset, .unset, .unset, .unset, .unset, .unset] [(.ref a16)])
  exact B9 _ _ p0 p1 p2 p3 a16 (F1_0 p0 p1 (0 : Int64) (0 : Int64) (0 : Int64) (0 : Int64) (0 : Int64) (0 : Int64) (0 : Int64) (0 : Int32)).1 (F1_0 p0 p1 (0 : Int64) (0 : Int64) (0 : Int64) (0 : Int64) (0 : Int64) (0 : Int64) (0 : Int64) (0 : Int32)).2.1 (F1_0 p0 p1 (0 : Int64) (0 : Int64) (0 : Int64) (0 : Int64) (0 : Int64) (0 : Int64) (0 : Int64) (0 : Int32)).2.2.1 (F1_0 p0 p1 (0 : Int64) (0 : Int64) (0 : Int64) (0 : Int64) (0 : Int64) (0 : Int64) (0 : Int64) (0 : Int32)).2.2.2.1 (F1_0 p0 p1 (0 : Int64) (0 : Int64) (0 : Int64) (0 : Int64) (0 : Int64) (0 : Int64) (0 : Int64) (0 : Int32)).2.2.2.2.1 (F1_0 p0 p1 (0 : Int64) (0 : Int64) (0 : Int64) (0 : Int64) (0 : Int64) (0 : Int64) (0 : Int64) (0 : Int32)).2.2.2.2.2.1 (F1_0 p0 p1 (0 : Int64) (0 : Int64) (0 : Int64) (0 : Int64) (0 : Int64) (0 : Int64) (0 : Int64) (0 : Int32)).2.2.2.2.2.2.1 (F1_0 p0 p1 (0 : Int64) (0 : Int64) (0 : Int64) (0 : Int64) (0 : Int64) (0 : Int64) (0 : Int64) (0 : Int32)).2.2.2.2.2.2.2 X I N hF
theorem own_60 (x0 x1 : Int64) (x2 x3 : Int32) (k0 k1 a b c d w : Int64) (n : Int32) : F0_60 x0 x1 x2 x3 k0 k1 a b c d w n = F0_60 x0 x1 x2 x3 k0 k1 0 0 0 0 0 0 := rfl
theorem own_47 (x0 x1 : Int64) (x2 x3 : Int32) (k0 k1 a b c d w : Int64) (n : Int32) : F0_47 x0 x1 x2 x3 k0 k1 a b c d w n = F0_60 x0 x1 x2 x3 k0 k1 0 0 0 0 0 0 := by
  unfold F0_47
  split
  · rw [own_60]
  · rw [F0_59, own_60]
theorem own_28 (x0 x1 : Int64) (x2 x3 : Int32) (k0 k1 a b c d w : Int64) (n : Int32) : F0_28 x0 x1 x2 x3 k0 k1 a b c d w n = F0_60 x0 x1 x2 x3 k0 k1 0 0 0 0 0 0 := by
  unfold F0_28
  split <;> rw [own_47]
theorem own_9 (x0 x1 : Int64) (x2 x3 : Int32) (k0 k1 a b c d w : Int64) (n : Int32) : F0_9 x0 x1 x2 x3 k0 k1 a b c d w n = F0_60 x0 x1 x2 x3 k0 k1 0 0 0 0 0 0 := by
  unfold F0_9
  split <;> rw [own_28]
theorem own_vec : (F4_0 506097522914230528 1084818905618843912 (F3_0 506097522914230528 1084818905618843912 0 0 0 0 0 0).1 (F3_0 506097522914230528 1084818905618843912 0 0 0 0 0 0).2.1 (F3_0 506097522914230528 1084818905618843912 0 0 0 0 0 0).2.2.1 (F3_0 506097522914230528 1084818905618843912 0 0 0 0 0 0).2.2.2.1 (F3_0 506097522914230528 1084818905618843912 0 0 0 0 0 0).2.2.2.2.1 (F3_0 506097522914230528 1084818905618843912 0 0 0 0 0 0).2.2.2.2.2).1 = 8246050544436514353 := by decide +kernel
theorem own_150 (x0 x1 : Int64) (x2 x3 : Int32) (u v a b c d w : Int64) (n : Int32) (h : u = v) : F0_150 x0 x1 x2 x3 u v 506097522914230528 1084818905618843912 a b c d w n = 1 := by
  have e : F0_150 x0 x1 x2 x3 u v 506097522914230528 1084818905618843912 a b c d w n = F0_150 x0 x1 x2 x3 u v 506097522914230528 1084818905618843912 0 0 0 0 0 0 := rfl
  rw [e, F0_150, F0_155, F0_160, if_pos h, if_pos own_vec]
  rfl
theorem own_118 (x0 x1 : Int64) (x2 x3 : Int32) (u v k0 k1 a b c d w : Int64) (n : Int32) (h : u = v) : F0_118 x0 x1 x2 x3 u v k0 k1 a b c d w n = 1 := by
  have e : F0_118 x0 x1 x2 x3 u v k0 k1 a b c d w n = F0_133 x0 x1 x2 x3 u v 506097522914230528 1084818905618843912 (F3_0 506097522914230528 1084818905618843912 0 0 0 0 0 0).1 (F3_0 506097522914230528 1084818905618843912 0 0 0 0 0 0).2.1 (F3_0 506097522914230528 1084818905618843912 0 0 0 0 0 0).2.2.1 (F3_0 506097522914230528 1084818905618843912 0 0 0 0 0 0).2.2.2.1 (F3_0 506097522914230528 1084818905618843912 0 0 0 0 0 0).2.2.2.2.1 (F3_0 506097522914230528 1084818905618843912 0 0 0 0 0 0).2.2.2.2.2 := rfl
  rw [e, F0_133]
  split
  · exact own_150 _ _ _ _ _ _ _ _ _ _ _ _ h
  · exact own_150 _ _ _ _ _ _ _ _ _ _ _ _ h
theorem own_law (p0 p1 : Int64) (p2 p3 : Int32) : F0_0 p0 p1 p2 p3 = 1 := by
  have e0 : F0_0 p0 p1 p2 p3 = F0_60 p0 p1 p2 p3 p0 p1 0 0 0 0 0 0 := own_9 _ _ _ _ _ _ _ _ _ _ _ _
  rw [e0, F0_60]
  by_cases q : (p2 &&& (8 : Int32)) = 0
  · rw [F0_65, if_pos q, F0_80, F0_85, F0_96, if_pos q, F0_113]
    exact own_118 _ _ _ _ _ _ _ _ _ _ _ _ _ _ rfl
  · rw [F0_65, if_neg q, F0_80, F0_85, F0_96, if_neg q, F0_113]
    exact own_118 _ _ _ _ _ _ _ _ _ _ _ _ _ _ rfl
set_option maxRecDepth 65536 in
set_option maxHeartbeats 40000000 in
theorem comes_1 {Post : Tables → Env → Array Value → State → Outcome → State → Prop} (hpost : ∀ tb e args s v u, (limb_1_1.after args s (.returned v) u = true ∧ limb_1_2.after args s (.returned v) u = true ∧ True) → FrameEnd s (.returned v) u (Jvm.fieldLocs frame_1_writes args s ++ Jvm.arrayLocs frame_1_arrays args s ++ Jvm.staticLocs frame_1_statics s) 16 128 → Post tb e args s (.returned v) u) :
    ArmFor flags0 classFile x code maxLocals ret World_1 tables_1 room_1 Calls_1 rest_1 Pre_1 Post := by
  intro l hfl _ _ p e ha hc hk s m args below hf hA hF happ hP
  obtain ⟨hcalls, hrest, hpre⟩ := hP
  obtain ⟨-, -, -, hnamed, -, -, -, hat⟩ := (Spec.applies_iff hf).mp happ
  obtain ⟨hg, hn⟩ := and_e (Cond.before_iff.mp (show (Jvm.Cond.and given_1 narrow_1).before args s = true from hpre))
  obtain ⟨g0, hg⟩ := and_e hg
  obtain ⟨w0, w1, w2, w3, rfl⟩ : ∃ w0 w1 w2 w3 : Value, args = #[w0, w1, w2, w3] := by
    have hs : args.size = 4 := by simpa [Cond.value, given_1] using g0
    obtain ⟨L⟩ := args
    match L, hs with
    | [w0, w1, w2, w3], _ => exact ⟨w0, w1, w2, w3, rfl⟩
  have hw := fun d (hd : d ∈ tables_1) => atoms_spec (ws := Jvm.Cond.code x code maxLocals ret :: tables_1) hat d (List.mem_cons_of_mem _ hd)
  obtain ⟨g1, hg⟩ := and_e hg
  obtain ⟨g2, hg⟩ := and_e hg
  obtain ⟨g3, hg⟩ := and_e hg
  have g4 := hg
  obtain ⟨i0, e0⟩ := isL_v g1
  obtain rfl : w0 = (.long i0) := Option.some.inj e0
  obtain ⟨i1, e1⟩ := isL_v g2
  obtain rfl : w1 = (.long i1) := Option.some.inj e1
  obtain ⟨i2, e2⟩ := is_v g3
  obtain rfl : w2 = (.int i2) := Option.some.inj e2
  obtain ⟨i3, e3⟩ := is_v g4
  obtain rfl : w3 = (.int i3) := Option.some.inj e3
  obtain ⟨n, o, h1, h2, h3, _, L, rfl, ⟨rfl, N, _⟩, hq⟩ := rm0 l s _ hw i0 i1 i2 i3 s.heap s.heap.size (Nat.le_refl _) tables_1 p e ha hc hk s m _ below hf ((Spec.applies_iff_loose hf).mp happ).1 ⟨rfl, State.Warmed39.refl s, rfl⟩ trivial
  refine ⟨n, _, h1, h2, h3, hpost _ _ _ _ _ _ ⟨Cond.after_iff.mpr rfl, Cond.after_iff.mpr (eq_i res_at (Term.int_eval (1)) (by rw [own_law i0 i1 i2 i3]) rfl), trivial⟩ ⟨hq.1, hq.2.1, (hq.2.2.sift fun y hy => Or.inr (N y hy)).mono (by decide) (by decide)⟩⟩
theorem main_1_1 : Claimed_1_1 := comes_1 fun _ _ _ _ _ _ h hF => ⟨h.1, hF⟩
theorem main_1_2 : Claimed_1_2 := comes_1 fun _ _ _ _ _ _ h hF => ⟨h.2.1, hF⟩
end Jvm.Pilot.@@N@@
namespace Jvm.Pilot.@@N@@
open Jvm Jvm.ClassFile Sem Op Lib Jvm.Free Jvm.Stand Jvm.Pilot.@@N@@.Jvm.D
/-! MADE BY PROGRAM (witnessworld.py) out of the Statement's table words and the real class files: 14 classes; the members and pool entries that the words name. The judged class is class 1, her method 1. -/
namespace start1
open Jvm.ClassFile
def u (s : String) : CpInfo := .utf8 (stringToUtf16 s)
/-- a pool by its gaps: so many unusable entries, then the entry; so many at the end -/
def gap : Nat → List CpInfo → List CpInfo
  | 0, r => r
  | n + 1, r => .unusable :: gap n r
def poolList (es : List (Nat × CpInfo)) (last : Nat) : List CpInfo := es.foldr (fun e r => gap e.1 (e.2 :: r)) (gap last [])
def pool (es : List (Nat × CpInfo)) (last : Nat) : Array CpInfo := ⟨poolList es last⟩
def fileOf (pool : Array CpInfo) (this : Nat) (attrs : Array Attribute := #[]) (ms : Array MethodInfo := #[]) (fl : Nat := 33) (sup : Nat := 0) (ifs : Array Nat := #[]) (fds : Array FieldInfo := #[]) : ClassFile where
  minorVersion := 0
  majorVersion := 65
  constantPool := pool
  accessFlags := fl
  thisClass := this
  superClass := sup
  interfaces := ifs
  fields := fds
  methods := ms
  attributes := attrs
def plain (name : String) (sup : Option ClassId) : Class where
  name := name
  kind := .ordinary
  loader := none
  accessFlags := 33
  super := sup
  interfaces := #[]
  cf := none
  fields := #[]
  methods := #[]
  instanceTypes := #[]
  staticTypes := #[]
  resolved := #[]
  callSites := []
  init := .initialized
  statics := none
  mirror := none

def pool0 : Array CpInfo := pool [(5, u "<init>"), (0, u "()V"), (1, .class_ 10), (1, u "java/lang/Object")] 113

def k0c0 : Code := { maxStack := 0, maxLocals := 1, code := object_method_1_code, exceptionTable := #[], attributes := #[] }
def k0m0 : Method := { name := "<init>", desc := "()V", sig := { parameters := [], returnType := none }, accessFlags := 1, code := some k0c0 }
/-- java/lang/Object -/
def k0 : Class := { plain "java/lang/Object" none with
  accessFlags := 33
  interfaces := #[]
  cf := some (fileOf pool0 8 #[] #[{ accessFlags := 1, nameIndex := 5, descriptorIndex := 6, attributes := #[] }] 33 0 #[] #[])
  fields := #[]
  methods := #[k0m0]
  instanceTypes := #[]
  staticTypes := #[]
  resolved := Array.replicate 124 none
  statics := none }

def pool1 : Array CpInfo := pool [(2, .class_ 4), (1, u "java/lang/Object"), (0, u "<init>"), (0, u "()V"), (0, .class_ 8), (0, u "com/example/tomekeeper/tomekeeper/tome/SipHash"), (0, .methodref 7 10), (0, .nameAndType 5 11), (0, u "(JJ)V"), (0, .methodref 7 13), (0, .nameAndType 14 15), (0, u "add"), (0, u "(I)V"), (0, .methodref 7 17), (0, .nameAndType 18 19), (0, u "addLong"), (0, u "(J)V"), (0, .methodref 7 21), (0, .nameAndType 22 23), (0, u "finish"), (0, u "()J"), (0, .methodref 7 25), (0, .nameAndType 26 6), (0, u "start"), (0, .methodref 7 28), (0, .nameAndType 29 15), (0, u "addInt"), (0, .long 506097522914230528), (1, .long 1084818905618843912), (1, .long 8246050544436514353), (1, .class_ 37), (0, u "com/example/tomekeeper/tomekeeper/tome/SipHashStartPinLaw"), (2, u "law"), (0, u "(JJII)Z")] 3

def k1m0 : Method := { name := "<init>", desc := "()V", sig := { parameters := [], returnType := none }, accessFlags := 1, code := none }
def k1c1 : Code := { maxStack := 6, maxLocals := 15, code := code, exceptionTable := #[], attributes := #[] }
def k1m1 : Method := { name := "law", desc := "(JJII)Z", sig := { parameters := [.long, .long, .int, .int], returnType := some .boolean }, accessFlags := 9, code := some k1c1 }
/-- com/example/tomekeeper/tomekeeper/tome/SipHashStartPinLaw -/
def k1 : Class := { plain "com/example/tomekeeper/tomekeeper/tome/SipHashStartPinLaw" (some 0) with
  accessFlags := 49
  interfaces := #[]
  cf := some (fileOf pool1 36 #[] #[{ accessFlags := 1, nameIndex := 5, descriptorIndex := 6, attributes := #[] }, { accessFlags := 9, nameIndex := 40, descriptorIndex := 41, attributes := #[] }] 49 2 #[] #[])
  fields := #[]
  methods := #[k1m0, k1m1]
  instanceTypes := #[]
  staticTypes := #[]
  resolved := Array.replicate 45 none
  statics := none }

def pool2 : Array CpInfo := pool [(1, .methodref 2 3), (0, .class_ 4), (0, .nameAndType 5 6), (0, u "java/lang/Object"), (0, u "<init>"), (0, u "()V"), (0, .fieldref 8 9), (0, .class_ 10), (0, .nameAndType 11 12), (0, u "com/example/tomekeeper/tomekeeper/tome/SipHash"), (0, u "key0"), (0, u "J"), (0, .fieldref 8 14), (0, .nameAndType 15 12), (0, u "key1"), (0, .methodref 8 17), (0, .nameAndType 18 6), (0, u "start"), (0, .long 8317987319222330741), (1, .fieldref 8 22), (0, .nameAndType 23 12), (0, u "v0"), (0, .long 7237128888997146477), (1, .fieldref 8 27), (0, .nameAndType 28 12), (0, u "v1"), (0, .long 7816392313619706465), (1, .fieldref 8 32), (0, .nameAndType 33 12), (0, u "v2"), (0, .long 8387220255154660723), (1, .fieldref 8 37), (0, .nameAndType 38 12), (0, u "v3"), (0, .fieldref 8 40), (0, .nameAndType 41 12), (0, u "word"), (0, .fieldref 8 43), (0, .nameAndType 44 45), (0, u "length"), (0, u "I"), (0, .long 255), (1, .methodref 8 49), (0, .nameAndType 50 51), (0, u "compress"), (0, u "(J)V"), (0, .methodref 8 53), (0, .nameAndType 54 55), (0, u "add"), (0, u "(I)V"), (0, .methodref 8 57), (0, .nameAndType 58 55), (0, u "addInt"), (0, .methodref 8 60), (0, .nameAndType 61 6), (0, u "round"), (0, .methodref 63 64), (0, .class_ 65), (0, .nameAndType 66 67), (0, u "java/lang/Long"), (0, u "rotateLeft"), (0, u "(JI)J"), (0, u "(JJ)V"), (3, u "addLong"), (0, u "finish"), (0, u "()J")] 2

def k2c0 : Code := { maxStack := 3, maxLocals := 5, code := prog_118_method_1_code, exceptionTable := #[], attributes := #[] }
def k2m0 : Method := { name := "<init>", desc := "(JJ)V", sig := { parameters := [.long, .long], returnType := none }, accessFlags := 0, code := some k2c0 }
def k2c1 : Code := { maxStack := 5, maxLocals := 1, code := prog_118_method_2_code, exceptionTable := #[], attributes := #[] }
def k2m1 : Method := { name := "start", desc := "()V", sig := { parameters := [], returnType := none }, accessFlags := 0, code := some k2c1 }
def k2c2 : Code := { maxStack := 8, maxLocals := 2, code := prog_118_method_3_code, exceptionTable := #[], attributes := #[] }
def k2m2 : Method := { name := "add", desc := "(I)V", sig := { parameters := [.int], returnType := none }, accessFlags := 0, code := some k2c2 }
def k2c3 : Code := { maxStack := 3, maxLocals := 2, code := prog_118_method_4_code, exceptionTable := #[], attributes := #[] }
def k2m3 : Method := { name := "addInt", desc := "(I)V", sig := { parameters := [.int], returnType := none }, accessFlags := 0, code := some k2c3 }
def k2c4 : Code := { maxStack := 4, maxLocals := 3, code := prog_118_method_5_code, exceptionTable := #[], attributes := #[] }
def k2m4 : Method := { name := "addLong", desc := "(J)V", sig := { parameters := [.long], returnType := none }, accessFlags := 0, code := some k2c4 }
def k2c5 : Code := { maxStack := 6, maxLocals := 2, code := prog_118_method_6_code, exceptionTable := #[], attributes := #[] }
def k2m5 : Method := { name := "finish", desc := "()J", sig := { parameters := [], returnType := some .long }, accessFlags := 0, code := some k2c5 }
def k2c6 : Code := { maxStack := 5, maxLocals := 3, code := prog_118_method_7_code, exceptionTable := #[], attributes := #[] }
def k2m6 : Method := { name := "compress", desc := "(J)V", sig := { parameters := [.long], returnType := none }, accessFlags := 2, code := some k2c6 }
def k2c7 : Code := { maxStack := 5, maxLocals := 1, code := prog_118_method_8_code, exceptionTable := #[], attributes := #[] }
def k2m7 : Method := { name := "round", desc := "()V", sig := { parameters := [], returnType := none }, accessFlags := 2, code := some k2c7 }
/-- com/example/tomekeeper/tomekeeper/tome/SipHash -/
def k2 : Class := { plain "com/example/tomekeeper/tomekeeper/tome/SipHash" (some 0) with
  accessFlags := 48
  interfaces := #[]
  cf := some (fileOf pool2 8 #[] #[{ accessFlags := 0, nameIndex := 5, descriptorIndex := 68, attributes := #[] }, { accessFlags := 0, nameIndex := 18, descriptorIndex := 6, attributes := #[] }, { accessFlags := 0, nameIndex := 54, descriptorIndex := 55, attributes := #[] }, { accessFlags := 0, nameIndex := 58, descriptorIndex := 55, attributes := #[] }, { accessFlags := 0, nameIndex := 72, descriptorIndex := 51, attributes := #[] }, { accessFlags := 0, nameIndex := 73, descriptorIndex := 74, attributes := #[] }, { accessFlags := 2, nameIndex := 50, descriptorIndex := 51, attributes := #[] }, { accessFlags := 2, nameIndex := 61, descriptorIndex := 6, attributes := #[] }] 48 2 #[] #[{ accessFlags := 18, nameIndex := 11, descriptorIndex := 12, attributes := #[] }, { accessFlags := 18, nameIndex := 15, descriptorIndex := 12, attributes := #[] }, { accessFlags := 2, nameIndex := 23, descriptorIndex := 12, attributes := #[] }, { accessFlags := 2, nameIndex := 28, descriptorIndex := 12, attributes := #[] }, { accessFlags := 2, nameIndex := 33, descriptorIndex := 12, attributes := #[] }, { accessFlags := 2, nameIndex := 38, descriptorIndex := 12, attributes := #[] }, { accessFlags := 2, nameIndex := 41, descriptorIndex := 12, attributes := #[] }, { accessFlags := 2, nameIndex := 44, descriptorIndex := 45, attributes := #[] }])
  fields := #[{ name := "key0", type := .long, accessFlags := 18, slot := 0, constantValue := 0 }, { name := "key1", type := .long, accessFlags := 18, slot := 1, constantValue := 0 }, { name := "v0", type := .long, accessFlags := 2, slot := 2, constantValue := 0 }, { name := "v1", type := .long, accessFlags := 2, slot := 3, constantValue := 0 }, { name := "v2", type := .long, accessFlags := 2, slot := 4, constantValue := 0 }, { name := "v3", type := .long, accessFlags := 2, slot := 5, constantValue := 0 }, { name := "word", type := .long, accessFlags := 2, slot := 6, constantValue := 0 }, { name := "length", type := .int, accessFlags := 2, slot := 7, constantValue := 0 }]
  methods := #[k2m0, k2m1, k2m2, k2m3, k2m4, k2m5, k2m6, k2m7]
  instanceTypes := #[.long, .long, .long, .long, .long, .long, .long, .int]
  staticTypes := #[]
  resolved := Array.replicate 77 none
  statics := none }

def pool3 : Array CpInfo := pool [(1, .class_ 2), (0, u "java/io/Serializable"), (0, .class_ 4), (0, u "java/lang/Object")] 2

/-- java/io/Serializable -/
def k3 : Class := { plain "java/io/Serializable" (some 0) with
  accessFlags := 1537
  interfaces := #[]
  cf := some (fileOf pool3 1 #[] #[] 1537 3 #[] #[])
  fields := #[]
  methods := #[]
  instanceTypes := #[]
  staticTypes := #[]
  resolved := Array.replicate 7 none
  statics := none }

def pool4 : Array CpInfo := pool [(2, .class_ 4), (1, u "java/lang/Object"), (0, u "<init>"), (0, u "()V"), (1, .class_ 10), (1, u "java/lang/Number"), (2, .class_ 14), (0, u "java/io/Serializable"), (0, u "serialVersionUID"), (0, u "J")] 20

def k4m0 : Method := { name := "<init>", desc := "()V", sig := { parameters := [], returnType := none }, accessFlags := 1, code := none }
/-- java/lang/Number -/
def k4 : Class := { plain "java/lang/Number" (some 0) with
  accessFlags := 1057
  interfaces := #[3]
  cf := some (fileOf pool4 8 #[] #[{ accessFlags := 1, nameIndex := 5, descriptorIndex := 6, attributes := #[] }] 1057 2 #[13] #[{ accessFlags := 26, nameIndex := 15, descriptorIndex := 16, attributes := #[] }])
  fields := #[{ name := "serialVersionUID", type := .long, accessFlags := 26, slot := 0, constantValue := 0 }]
  methods := #[k4m0]
  instanceTypes := #[]
  staticTypes := #[.long]
  resolved := Array.replicate 37 none
  statics := none }

def pool5 : Array CpInfo := pool [(1, .class_ 2), (0, u "java/lang/Comparable"), (0, .class_ 4), (0, u "java/lang/Object")] 7

/-- java/lang/Comparable -/
def k5 : Class := { plain "java/lang/Comparable" (some 0) with
  accessFlags := 1537
  interfaces := #[]
  cf := some (fileOf pool5 1 #[] #[] 1537 3 #[] #[])
  fields := #[]
  methods := #[]
  instanceTypes := #[]
  staticTypes := #[]
  resolved := Array.replicate 12 none
  statics := none }

def pool6 : Array CpInfo := pool [(1, .class_ 2), (0, u "java/lang/constant/Constable"), (0, .class_ 4), (0, u "java/lang/Object")] 6

/-- java/lang/constant/Constable -/
def k6 : Class := { plain "java/lang/constant/Constable" (some 0) with
  accessFlags := 1537
  interfaces := #[]
  cf := some (fileOf pool6 1 #[] #[] 1537 3 #[] #[])
  fields := #[]
  methods := #[]
  instanceTypes := #[]
  staticTypes := #[]
  resolved := Array.replicate 11 none
  statics := none }

def pool7 : Array CpInfo := pool [(1, .class_ 2), (0, u "java/lang/constant/ConstantDesc"), (0, .class_ 4), (0, u "java/lang/Object")] 32

/-- java/lang/constant/ConstantDesc -/
def k7 : Class := { plain "java/lang/constant/ConstantDesc" (some 0) with
  accessFlags := 1537
  interfaces := #[]
  cf := some (fileOf pool7 1 #[] #[] 1537 3 #[] #[])
  fields := #[]
  methods := #[]
  instanceTypes := #[]
  staticTypes := #[]
  resolved := Array.replicate 37 none
  statics := none }

def pool8 : Array CpInfo := pool [(1, .class_ 2), (0, u "java/lang/Long"), (232, .class_ 237), (1, u "java/lang/Long$LongCache"), (33, .class_ 272), (0, u "java/lang/Number"), (2, u "value"), (0, u "J"), (84, u "TYPE"), (0, u "Ljava/lang/Class;"), (0, .class_ 364), (0, u "java/lang/Comparable"), (0, .class_ 366), (0, u "java/lang/constant/Constable"), (0, .class_ 368), (0, u "java/lang/constant/ConstantDesc"), (0, u "MIN_VALUE"), (1, u "MAX_VALUE"), (4, u "SIZE"), (0, u "I"), (1, u "BYTES"), (1, u "serialVersionUID"), (95, u "rotateLeft"), (0, u "(JI)J")] 45

def k8c0 : Code := { maxStack := 5, maxLocals := 3, code := jdk_35_method_51_code, exceptionTable := #[], attributes := #[] }
def k8m0 : Method := { name := "rotateLeft", desc := "(JI)J", sig := { parameters := [.long, .int], returnType := some .long }, accessFlags := 9, code := some k8c0 }
/-- java/lang/Long -/
def k8 : Class := { plain "java/lang/Long" (some 4) with
  accessFlags := 49
  interfaces := #[5, 6, 7]
  cf := some (fileOf pool8 1 #[.nestMembers #[235]] #[{ accessFlags := 9, nameIndex := 477, descriptorIndex := 478, attributes := #[] }] 49 271 #[363, 365, 367] #[{ accessFlags := 25, nameIndex := 369, descriptorIndex := 276, attributes := #[] }, { accessFlags := 25, nameIndex := 371, descriptorIndex := 276, attributes := #[] }, { accessFlags := 25, nameIndex := 361, descriptorIndex := 362, attributes := #[] }, { accessFlags := 18, nameIndex := 275, descriptorIndex := 276, attributes := #[] }, { accessFlags := 25, nameIndex := 376, descriptorIndex := 377, attributes := #[] }, { accessFlags := 25, nameIndex := 379, descriptorIndex := 377, attributes := #[] }, { accessFlags := 26, nameIndex := 381, descriptorIndex := 276, attributes := #[] }])
  fields := #[{ name := "MIN_VALUE", type := .long, accessFlags := 25, slot := 0, constantValue := 0 }, { name := "MAX_VALUE", type := .long, accessFlags := 25, slot := 1, constantValue := 0 }, { name := "TYPE", type := (.object "java/lang/Class"), accessFlags := 25, slot := 2, constantValue := 0 }, { name := "value", type := .long, accessFlags := 18, slot := 0, constantValue := 0 }, { name := "SIZE", type := .int, accessFlags := 25, slot := 3, constantValue := 0 }, { name := "BYTES", type := .int, accessFlags := 25, slot := 4, constantValue := 0 }, { name := "serialVersionUID", type := .long, accessFlags := 26, slot := 5, constantValue := 0 }]
  methods := #[k8m0]
  instanceTypes := #[.long]
  staticTypes := #[.long, .long, (.object "java/lang/Class"), .int, .int, .long]
  resolved := Array.replicate 524 none
  statics := none }

def pool9 : Array CpInfo := pool [(1, u "java/lang/Cloneable"), (0, .class_ 1), (0, u "java/lang/Object"), (0, .class_ 3)] 3

/-- java/lang/Cloneable -/
def k9 : Class := { plain "java/lang/Cloneable" (some 0) with
  accessFlags := 1537
  interfaces := #[]
  cf := some (fileOf pool9 2 #[] #[] 1537 4 #[] #[])
  fields := #[]
  methods := #[]
  instanceTypes := #[]
  staticTypes := #[]
  resolved := Array.replicate 8 none
  statics := none }

/-- the primitive byte -/
def k10 : Class := { plain "byte" none with kind := .primitive 'B', accessFlags := 0x411 }
/-- [B -/
def k11 : Class := { plain "[B" (some 0) with kind := .array 10 .byte, interfaces := #[9, 3], accessFlags := 1041 }

/-- the primitive int -/
def k12 : Class := { plain "int" none with kind := .primitive 'I', accessFlags := 0x411 }
/-- [I -/
def k13 : Class := { plain "[I" (some 0) with kind := .array 12 .int, interfaces := #[9, 3], accessFlags := 1041 }

def heap : Heap := #[]
def classes : Array Class := #[k0, k1, k2, k3, k4, k5, k6, k7, k8, k9, k10, k11, k12, k13]
def interned : List (Array UInt16 × Addr) := []
def slotsUsed : Nat := 0
def theMethod : MethodId := ⟨1, 1⟩
def args0 : Array Value := #[.long 5, .long 5, .int 5, .int 5]
def aboutOver (below : List Frame) : State where
  vm := { classes := classes, interned := interned.toArray }
  heap := heap
  slotsUsed := slotsUsed
  threads := #[{ frames := .invoking theMethod args0 :: below }]
def below0 : List Frame := [.native { method := ⟨0, 0⟩, args := #[] }]
def about1 : State := aboutOver below0
def p0 : Program := .bare "" "" ""
def e0 : Env := launch0.env 0 0 0
theorem w_frames : about1.frames = Frame.invoking theMethod args0 :: below0 := rfl
set_option maxRecDepth 65536 in
theorem w_args : argsFit about1.vm theMethod args0 = true := by decide +kernel
set_option maxRecDepth 65536 in
theorem w_heap : heapFits about1 = true := by decide +kernel
set_option maxRecDepth 65536 in
theorem w_runnable : about1.curStatus? = some .runnable := by decide +kernel
set_option maxRecDepth 65536 in
theorem w_alone : about1.alone = true := by decide +kernel
set_option maxRecDepth 65536 in
theorem w_named : about1.methodNamed? x = some theMethod := by decide +kernel
set_option maxRecDepth 65536 in
theorem w_hears : about1.hears theMethod below0 = true := by decide +kernel
set_option maxRecDepth 65536 in
theorem w_ripe : about1.ripe theMethod args0 below0 = true := by decide +kernel
theorem w_running : about1.status = .running := rfl
set_option maxRecDepth 65536 in
theorem w_room : about1.hasRoom e0.platform room_1 = true :=
  launch0.hasRoom_least _ room_1 (by decide +kernel) (by decide +kernel) (by decide +kernel) (by decide +kernel) (by decide +kernel) (by decide +kernel)
theorem allAtoms_all (ts : List Jvm.Cond) (a : Array Jvm.Value) (st : Jvm.State) : (allAtoms ts).before a st = ts.all (fun c => c.before a st) := by
  induction ts with
  | nil => rfl
  | cons c t ih =>
    show (Jvm.Cond.and c (allAtoms t)).before a st = _
    rw [Jvm.Cond.before_and, ih, List.all_cons]
def words1 : List Jvm.Cond := Jvm.Cond.code x code maxLocals ret :: tables_1
/-- a 'code' word, met by the world's own term for the bytes: nothing is compared byte by byte -/
theorem code_word {y : MethodName} {bytes : ByteArray} {mx : Nat} {rt : Option FieldType} {a : Array Value} {s : State} {m : MethodId} {meth : Method} {c : Code} (h1 : s.methodNamed? y = some m) (h2 : s.vm.method? m = some meth) (h3 : meth.code = some c) (h4 : c.code = bytes)
    (h5 : (c.maxLocals == mx && c.exceptionTable.isEmpty && decide (c.maxStack ≤ mostOperands) && decide (meth.sig.returnType = rt) && !meth.locks && decide (parseMethodDescriptor y.desc = some meth.sig)) = true) : (Jvm.Cond.code y bytes mx rt).before a s = true := by
  simp only [Bool.and_eq_true, beq_iff_eq, Bool.not_eq_true', decide_eq_true_eq] at h5
  obtain ⟨⟨⟨⟨⟨g1, g2⟩, g3⟩, g4⟩, g5⟩, g6⟩ := h5
  simp [Cond.before, Cond.holds, Cond.value, h1, h2, h3, h4, g1, g2, g3, g4, g5, g6]
def isCode : Jvm.Cond → Bool
  | .code _ _ _ _ => true
  | _ => false
theorem all_split {L : List Jvm.Cond} {P : Jvm.Cond → Bool} (h1 : L.all (fun c => isCode c || P c) = true) (h2 : ∀ c ∈ L.filter isCode, P c = true) : L.all P = true := by
  refine List.all_eq_true.mpr fun c hc => ?_
  have h := List.all_eq_true.mp h1 c hc
  rcases Bool.eq_false_or_eq_true (isCode c) with hi | hi
  · exact h2 c (List.mem_filter.mpr ⟨hc, hi⟩)
  · simpa [hi] using h
set_option maxRecDepth 65536 in
theorem w_c0 : (Jvm.Cond.code x code maxLocals ret).before args0 about1 = true := code_word (m := ⟨1, 1⟩) (meth := k1m1) (c := k1c1) (by decide +kernel) rfl rfl rfl (by decide +kernel)
set_option maxRecDepth 65536 in
theorem w_c1 : (Jvm.Cond.code ({ cls := "com/example/tomekeeper/tomekeeper/tome/SipHash", name := "<init>", desc := "(JJ)V" } : Jvm.MethodName) prog_118_method_1_code (5 : Nat) (Option.none : Option Jvm.ClassFile.FieldType)).before args0 about1 = true := code_word (m := ⟨2, 0⟩) (meth := k2m0) (c := k2c0) (by decide +kernel) rfl rfl rfl (by decide +kernel)
set_option maxRecDepth 65536 in
theorem w_c2 : (Jvm.Cond.code ({ cls := "java/lang/Object", name := "<init>", desc := "()V" } : Jvm.MethodName) object_method_1_code (1 : Nat) (Option.none : Option Jvm.ClassFile.FieldType)).before args0 about1 = true := code_word (m := ⟨0, 0⟩) (meth := k0m0) (c := k0c0) (by decide +kernel) rfl rfl rfl (by decide +kernel)
set_option maxRecDepth 65536 in
theorem w_c3 : (Jvm.Cond.code ({ cls := "com/example/tomekeeper/tomekeeper/tome/SipHash", name := "start", desc := "()V" } : Jvm.MethodName) prog_118_method_2_code (1 : Nat) (Option.none : Option Jvm.ClassFile.FieldType)).before args0 about1 = true := code_word (m := ⟨2, 1⟩) (meth := k2m1) (c := k2c1) (by decide +kernel) rfl rfl rfl (by decide +kernel)
set_option maxRecDepth 65536 in
theorem w_c4 : (Jvm.Cond.code ({ cls := "com/example/tomekeeper/tomekeeper/tome/SipHash", name := "finish", desc := "()J" } : Jvm.MethodName) prog_118_method_6_code (2 : Nat) (Option.some Jvm.ClassFile.FieldType.long)).before args0 about1 = true := code_word (m := ⟨2, 5⟩) (meth := k2m5) (c := k2c5) (by decide +kernel) rfl rfl rfl (by decide +kernel)
set_option maxRecDepth 65536 in
theorem w_c5 : (Jvm.Cond.code ({ cls := "com/example/tomekeeper/tomekeeper/tome/SipHash", name := "compress", desc := "(J)V" } : Jvm.MethodName) prog_118_method_7_code (3 : Nat) (Option.none : Option Jvm.ClassFile.FieldType)).before args0 about1 = true := code_word (m := ⟨2, 6⟩) (meth := k2m6) (c := k2c6) (by decide +kernel) rfl rfl rfl (by decide +kernel)
set_option maxRecDepth 65536 in
theorem w_c6 : (Jvm.Cond.code ({ cls := "com/example/tomekeeper/tomekeeper/tome/SipHash", name := "round", desc := "()V" } : Jvm.MethodName) prog_118_method_8_code (1 : Nat) (Option.none : Option Jvm.ClassFile.FieldType)).before args0 about1 = true := code_word (m := ⟨2, 7⟩) (meth := k2m7) (c := k2c7) (by decide +kernel) rfl rfl rfl (by decide +kernel)
set_option maxRecDepth 65536 in
theorem w_c7 : (Jvm.Cond.code ({ cls := "java/lang/Long", name := "rotateLeft", desc := "(JI)J" } : Jvm.MethodName) jdk_35_method_51_code (3 : Nat) (Option.some Jvm.ClassFile.FieldType.long)).before args0 about1 = true := code_word (m := ⟨8, 0⟩) (meth := k8m0) (c := k8c0) (by decide +kernel) rfl rfl rfl (by decide +kernel)
set_option maxRecDepth 65536 in
theorem w_c8 : (Jvm.Cond.code ({ cls := "com/example/tomekeeper/tomekeeper/tome/SipHash", name := "addInt", desc := "(I)V" } : Jvm.MethodName) prog_118_method_4_code (2 : Nat) (Option.none : Option Jvm.ClassFile.FieldType)).before args0 about1 = true := code_word (m := ⟨2, 3⟩) (meth := k2m3) (c := k2c3) (by decide +kernel) rfl rfl rfl (by decide +kernel)
set_option maxRecDepth 65536 in
theorem w_c9 : (Jvm.Cond.code ({ cls := "com/example/tomekeeper/tomekeeper/tome/SipHash", name := "add", desc := "(I)V" } : Jvm.MethodName) prog_118_method_3_code (2 : Nat) (Option.none : Option Jvm.ClassFile.FieldType)).before args0 about1 = true := code_word (m := ⟨2, 2⟩) (meth := k2m2) (c := k2c2) (by decide +kernel) rfl rfl rfl (by decide +kernel)
set_option maxRecDepth 65536 in
theorem w_c10 : (Jvm.Cond.code ({ cls := "com/example/tomekeeper/tomekeeper/tome/SipHash", name := "addLong", desc := "(J)V" } : Jvm.MethodName) prog_118_method_5_code (3 : Nat) (Option.none : Option Jvm.ClassFile.FieldType)).before args0 about1 = true := code_word (m := ⟨2, 4⟩) (meth := k2m4) (c := k2c4) (by decide +kernel) rfl rfl rfl (by decide +kernel)
def codes1 : List Jvm.Cond := [Jvm.Cond.code x code maxLocals ret, Jvm.Cond.code ({ cls := "com/example/tomekeeper/tomekeeper/tome/SipHash", name := "<init>", desc := "(JJ)V" } : Jvm.MethodName) prog_118_method_1_code (5 : Nat) (Option.none : Option Jvm.ClassFile.FieldType), Jvm.Cond.code ({ cls := "java/lang/Object", name := "<init>", desc := "()V" } : Jvm.MethodName) object_method_1_code (1 : Nat) (Option.none : Option Jvm.ClassFile.FieldType), Jvm.Cond.code ({ cls := "com/example/tomekeeper/tomekeeper/tome/SipHash", name := "start", desc := "()V" } : Jvm.MethodName) prog_118_method_2_code (1 : Nat) (Option.none : Option Jvm.ClassFile.FieldType), Jvm.Cond.code ({ cls := "com/example/tomekeeper/tomekeeper/tome/SipHash", name := "finish", desc := "()J" } : Jvm.MethodName) prog_118_method_6_code (2 : Nat) (Option.some Jvm.ClassFile.FieldType.long), Jvm.Cond.code ({ cls := "com/example/tomekeeper/tomekeeper/tome/SipHash", name := "compress", desc := "(J)V" } : Jvm.MethodName) prog_118_method_7_code (3 : Nat) (Option.none : Option Jvm.ClassFile.FieldType), Jvm.Cond.code ({ cls := "com/example/tomekeeper/tomekeeper/tome/SipHash", name := "round", desc := "()V" } : Jvm.MethodName) prog_118_method_8_code (1 : Nat) (Option.none : Option Jvm.ClassFile.FieldType), Jvm.Cond.code ({ cls := "java/lang/Long", name := "rotateLeft", desc := "(JI)J" } : Jvm.MethodName) jdk_35_method_51_code (3 : Nat) (Option.some Jvm.ClassFile.FieldType.long), Jvm.Cond.code ({ cls := "com/example/tomekeeper/tomekeeper/tome/SipHash", name := "addInt", desc := "(I)V" } : Jvm.MethodName) prog_118_method_4_code (2 : Nat) (Option.none : Option Jvm.ClassFile.FieldType), Jvm.Cond.code ({ cls := "com/example/tomekeeper/tomekeeper/tome/SipHash", name := "add", desc := "(I)V" } : Jvm.MethodName) prog_118_method_3_code (2 : Nat) (Option.none : Option Jvm.ClassFile.FieldType), Jvm.Cond.code ({ cls := "com/example/tomekeeper/tomekeeper/tome/SipHash", name := "addLong", desc := "(J)V" } : Jvm.MethodName) prog_118_method_5_code (3 : Nat) (Option.none : Option Jvm.ClassFile.FieldType)]
set_option maxRecDepth 65536 in
theorem codes_eq : words1.filter isCode = codes1 := rfl
theorem w_codes : ∀ c ∈ words1.filter isCode, c.before args0 about1 = true := by
  rw [codes_eq]
  intro c hc
  simp only [codes1, List.mem_cons, List.not_mem_nil, or_false] at hc
  rcases hc with rfl | rfl | rfl | rfl | rfl | rfl | rfl | rfl | rfl | rfl | rfl
  · exact w_c0
  · exact w_c1
  · exact w_c2
  · exact w_c3
  · exact w_c4
  · exact w_c5
  · exact w_c6
  · exact w_c7
  · exact w_c8
  · exact w_c9
  · exact w_c10
set_option maxRecDepth 65536 in
theorem w_t1 : (words1.take 24).all (fun c => isCode c || c.before args0 about1) = true := by decide +kernel
set_option maxRecDepth 65536 in
theorem w_t2 : ((words1.drop 24).take 24).all (fun c => isCode c || c.before args0 about1) = true := by decide +kernel
set_option maxRecDepth 65536 in
theorem w_t3 : (((words1.drop 24).drop 24).take 24).all (fun c => isCode c || c.before args0 about1) = true := by decide +kernel
set_option maxRecDepth 65536 in
theorem w_t4 : (((words1.drop 24).drop 24).drop 24).all (fun c => isCode c || c.before args0 about1) = true := by decide +kernel
theorem w_tables : (allAtoms (Jvm.Cond.code x code maxLocals ret :: tables_1)).before args0 about1 = true := by
  rw [allAtoms_all]
  show words1.all (fun c => c.before args0 about1) = true
  refine all_split ?_ w_codes
  rw [← List.take_append_drop 24 words1, List.all_append, w_t1, ← List.take_append_drop 24 (words1.drop 24), List.all_append, w_t2, ← List.take_append_drop 24 ((words1.drop 24).drop 24), List.all_append, w_t3, w_t4]
  rfl
set_option maxRecDepth 65536 in
theorem w_case : (Jvm.Cond.and given_1 narrow_1).before args0 about1 = true := by decide +kernel
theorem w_applies : (headSpec (Jvm.Cond.code x code maxLocals ret :: tables_1) room_1).applies x e0.platform about1 = true :=
  (Spec.applies_iff w_frames).mpr ⟨w_running, w_runnable, w_alone, w_named, w_hears, w_ripe, w_room, w_tables⟩
theorem atStart : AtStart classFile x code maxLocals ret World_1 tables_1 room_1 Calls_1 rest_1 Pre_1 launch0 p0 e0 about1 theMethod args0 below0 :=
  ⟨lists_1, trivial, launch0.admits_env _ _ _, launch0.least_env, fairChoices_fair.cas, fairChoices_fair.clock, w_frames, w_args, w_heap, w_applies, trivial, trivial, w_case⟩
end start1
theorem witness_1 : WitnessClaimed_1 := ⟨start1.p0, start1.e0, start1.about1, start1.theMethod, start1.args0, start1.below0, start1.atStart⟩
end Jvm.Pilot.@@N@@
