import JvmDerived
import JvmDerived.Pilot.@@N@@Statement
import JvmDerived.Pilot.@@N@@Code
set_option linter.unusedVariables false
set_option linter.unusedSimpArgs false
namespace Jvm.RoadKit
open Sem ClassFile Op Lib Jvm.Stand Jvm.Free Jvm.LawKit
section New
variable {p : Program} {l : Launch} {e : Env} {R : Room} {s : State} {m : MethodId} {args : Array Value} {below : List Frame} {meth : Method} {c : Code} {T : State} {locs : List Loc} {cells slots : Nat}
theorem retI (X : Stand p l e R s m args below meth c T locs cells slots) (hx : p.tables.exec = Jvm.exec) {pc : Nat} {Ls : Array Slot} {z : Int32} {rest : List Value} (hret : meth.sig.returnType = some .int) (hd : decode c.code pc = .ok (.ireturn, 1)) {fs : List Frame}
    (hl : ∀ (f : JFrame) (acts : List Action), f.method = m → f.locked = none → f.entered = [] → (doReturn e (T.setTop f) acts (some (.int z))).1 = T.setFrames fs) : Steps p.tables e below (T.setTop (mkF m pc Ls (.int z :: rest))) (T.setFrames fs) := by
  have hm' : T.vm.method? m = some meth := X.method'
  have hn : narrow .int (.int z) = .int z := rfl
  show Steps p.tables e below (T.setTop { method := m, pc := pc, locals := Ls, stack := _ :: rest, locked := none }) _
  jvm_step X.here [X.here.top, hx, hd, hm', hret, hn]
  first | (intro acts; rw [hl _ acts rfl rfl rfl]) | rw [hl _ _ rfl rfl rfl]
  exact Steps.refl _
end New
end Jvm.RoadKit
namespace Jvm.Pilot.@@N@@
open Jvm Jvm.ClassFile Sem Op Lib Jvm.Free Jvm.Stand Jvm.LawKit Jvm.RoadKit Bundle Jvm.Pilot.@@N@@.Jvm.D
section Own
variable {p : Program} {l : Launch} {e : Env} {R : Room} {s : State} {m : MethodId} {args : Array Value} {below : List Frame} {meth : Method} {c : Code} {T : State} {locs : List Loc} {k j : Nat} {Z : State} {a0 : Array Value} {h : Heap}
/-- the run that stands at g goes on to an end as Q says -/
def own_E (p : Program) (e : Env) (below : List Frame) (Q : Outcome → State → Prop) (T : State) (g : JFrame) : Prop :=
  ∃ s₂ o, Steps p.tables e below (T.setTop g) s₂ ∧ s₂.status = .running ∧ Ended s₂ below o ∧ Q o s₂
/-- an end as a contract's Qr says, with so many cells and slots at the most -/
def own_Q (s : State) (Qr : Option Value → Heap → List Loc → Prop) (k j : Nat) (o : Outcome) (U : State) : Prop := ∃ v L, o = .returned v ∧ Qr v U.heap L ∧ FrameEnd s o U L k j
/-- a contract of a method at these arguments and this heap -/
def own_M (l : Launch) (Z : State) (y : MethodName) (bytes : ByteArray) (maxL : Nat) (ret : Option FieldType) (rm : Room) (as' : Array Value) (h : Heap) (Qr : Option Value → Heap → List Loc → Prop) : Prop :=
  ∀ ws : List Jvm.Cond, MetFree l y (head1 (Jvm.Cond.code y bytes maxL ret :: ws) rm) (fun a U => a = as' ∧ Z.Warmed39 U.vm ∧ U.heap = h) (fun _ _ _ _ _ => True) (fun _ U o U' => ∃ v L, o = .returned v ∧ Qr v U'.heap L ∧ FrameEnd U o U' L rm.cells rm.slots)
theorem own_st {Q : Outcome → State → Prop} {T' : State} {g g' : JFrame} (hs : ∀ t, Steps p.tables e below (T'.setTop g') t → Steps p.tables e below (T.setTop g) t) (k : own_E p e below Q T' g') : own_E p e below Q T g := by
  obtain ⟨s₂, o, h1, h2, h3, h4⟩ := k
  exact ⟨s₂, o, hs _ h1, h2, h3, h4⟩
theorem own_sy {Q : Outcome → State → Prop} {T' : State} {g g' : JFrame} (hs : Steps p.tables e below (T.setTop g) (T'.setTop g')) (k : own_E p e below Q T' g') : own_E p e below Q T g := by
  obtain ⟨s₂, o, h1, h2, h3, h4⟩ := k
  exact ⟨s₂, o, hs.trans h1, h2, h3, h4⟩
theorem own_body {y : MethodName} {bytes : ByteArray} {maxL : Nat} {ret : Option FieldType} {rm : Room} {as' : Array Value} {Qr : Option Value → Heap → List Loc → Prop} (hp : plainName y.cls = true)
    (body : ∀ (p : Program) (e : Env) (s : State) (m : MethodId) (below : List Frame) (meth : Method) (c : Code) (T : State), p.tables.exec = Jvm.exec → c.code = bytes → c.maxLocals = maxL → s.vm.findClass y.cls = some m.cls → Z.Warmed39 s.vm → meth.sig.returnType = ret → meth.locks = false → meth.name = y.name →
      Stand p l e rm s m as' below meth c T [] 0 0 → T.heap = h → own_E p e below (own_Q s Qr rm.cells rm.slots) T (entryFrame m as' maxL)) : own_M l Z y bytes maxL ret rm as' h Qr := by
  intro ws
  refine MetFree.of_bodySF (plainFor_of_name hp) hisR ?_
  intro p e s m args below meth c s₁ Bd hml0 hP hK
  obtain ⟨rfl, hZ, hh⟩ := hP
  exact body p e s m below meth c s₁ Bd.exec Bd.bytes hml0 (findClass_of_methodNamed Bd.named) hZ Bd.returns Bd.notSynchronized (name_of_methodNamed Bd.named Bd.method).1 (Stand.of_body Bd) (by rw [← hh, Bd.state]; rfl)
theorem own_retN {Qr : Option Value → Heap → List Loc → Prop} {kk jj pc : Nat} {Ls : Array Slot} {z : Int32} {t : FieldType} {rest : List Value} (X : Stand p l e R s m args below meth c T locs k j) (hx : p.tables.exec = Jvm.exec) (hlk : meth.locks = false) (hret : meth.sig.returnType = some t) (ht : t = .boolean ∨ t = .byte ∨ t = .char ∨ t = .short)
    (hd : decode c.code pc = .ok (.ireturn, 1)) (hk : k ≤ kk) (hj : j ≤ jj) (hq : Qr (some (.int (nar t z))) T.heap locs) : own_E p e below (own_Q s Qr kk jj) T (mkF m pc Ls (.int z :: rest)) := by
  obtain ⟨fs, hr, hrun, hended, hW, hsame⟩ := X.leave (v := some (.int (nar t z))) (fun q => by rw [hret] at q; cases q) hlk
  exact ⟨_, _, retN X hx hret ht hd hr, hrun, hended, _, _, rfl, hq, ⟨_, rfl⟩, hW, hsame.mono hk hj⟩
theorem own_retI {Qr : Option Value → Heap → List Loc → Prop} {kk jj pc : Nat} {Ls : Array Slot} {z : Int32} {rest : List Value} (X : Stand p l e R s m args below meth c T locs k j) (hx : p.tables.exec = Jvm.exec) (hlk : meth.locks = false) (hret : meth.sig.returnType = some .int)
    (hd : decode c.code pc = .ok (.ireturn, 1)) (hk : k ≤ kk) (hj : j ≤ jj) (hq : Qr (some (.int z)) T.heap locs) : own_E p e below (own_Q s Qr kk jj) T (mkF m pc Ls (.int z :: rest)) := by
  obtain ⟨fs, hr, hrun, hended, hW, hsame⟩ := X.leave (v := some (.int z)) (fun q => by rw [hret] at q; cases q) hlk
  exact ⟨_, _, retI X hx hret hd hr, hrun, hended, _, _, rfl, hq, ⟨_, rfl⟩, hW, hsame.mono hk hj⟩
theorem own_retJ {Qr : Option Value → Heap → List Loc → Prop} {kk jj pc : Nat} {Ls : Array Slot} {z : Int64} (X : Stand p l e R s m args below meth c T locs k j) (hx : p.tables.exec = Jvm.exec) (hlk : meth.locks = false) (hret : meth.sig.returnType = some .long)
    (hd : decode c.code pc = .ok (.lreturn, 1)) (hk : k ≤ kk) (hj : j ≤ jj) (hq : Qr (some (.long z)) T.heap locs) : own_E p e below (own_Q s Qr kk jj) T (mkF m pc Ls [.long z]) := by
  obtain ⟨fs, hr, hrun, hended, hW, hsame⟩ := X.leave (v := some (.long z)) (fun q => by rw [hret] at q; cases q) hlk
  exact ⟨_, _, X.lreturnOut hx hret hd hr, hrun, hended, _, _, rfl, hq, ⟨_, rfl⟩, hW, hsame.mono hk hj⟩
theorem own_retV {Qr : Option Value → Heap → List Loc → Prop} {kk jj pc : Nat} {Ls : Array Slot} (X : Stand p l e R s m args below meth c T locs k j) (hx : p.tables.exec = Jvm.exec) (hlk : meth.locks = false) (hret : meth.sig.returnType = none)
    (hd : decode c.code pc = .ok (.return_, 1)) (hk : k ≤ kk) (hj : j ≤ jj) (hq : Qr none T.heap locs) : own_E p e below (own_Q s Qr kk jj) T (mkF m pc Ls []) := by
  obtain ⟨fs, hr, hrun, hended, hW, hsame⟩ := X.leave (v := none) (fun _ => rfl) hlk
  exact ⟨_, _, X.returnOut hx hret hd hr, hrun, hended, _, _, rfl, hq, ⟨_, rfl⟩, hW, hsame.mono hk hj⟩
theorem own_retA {Qr : Option Value → Heap → List Loc → Prop} {kk jj pc : Nat} {Ls : Array Slot} {z : Value} {t : FieldType} {rest : List Value} (X : Stand p l e R s m args below meth c T locs k j) (hx : p.tables.exec = Jvm.exec) (hlk : meth.locks = false) (hret : meth.sig.returnType = some t) (ht : t.isReference = true) (hz : z.isRef = true) (hn : narrow t z = z)
    (hd : decode c.code pc = .ok (.areturn, 1)) (hk : k ≤ kk) (hj : j ≤ jj) (hq : Qr (some z) T.heap locs) : own_E p e below (own_Q s Qr kk jj) T (mkF m pc Ls (z :: rest)) := by
  obtain ⟨fs, hr, hrun, hended, hW, hsame⟩ := X.leave (v := some z) (fun q => by rw [hret] at q; cases q) hlk
  exact ⟨_, _, retOut X hx hret hn (Or.inr (Or.inr (Or.inr (Or.inr ⟨rfl, ht, hz⟩)))) hd hr, hrun, hended, _, _, rfl, hq, ⟨_, rfl⟩, hW, hsame.mono hk hj⟩
theorem own_callS {own : String} {index : Nat} {y : MethodName} {bytes : ByteArray} {maxL W : Nat} {ret : Option FieldType} {rm : Room} {Qr : Option Value → Heap → List Loc → Prop} {Q : Outcome → State → Prop} {g : JFrame} {argsL rest : List Value}
    (X : Stand p l e R s m args below meth c T locs k j) (hx : p.tables.exec = Jvm.exec) (hZ : Z.Warmed39 s.vm) (hown : s.vm.findClass own = some m.cls) (wl : (Cond.methodLink own index y).before a0 Z = true) (wst : (Cond.static y).before a0 Z = true) (wi : (Cond.initialized y.cls).before a0 Z = true) (wc : (Cond.code y bytes maxL ret).before a0 Z = true)
    (hy : y.cls ≠ "java/lang/invoke/MethodHandle" ∧ y.cls ≠ "java/lang/invoke/VarHandle") (hM : own_M l Z y bytes maxL ret rm argsL.toArray T.heap Qr) (hf : rm.frames + 1 ≤ R.frames) (hl : W + (maxL + 11) + rm.locals ≤ R.locals) (hck : k + rm.cells ≤ R.cells) (hcj : j + rm.slots ≤ R.slots)
    (hg : g.method = m) (hsize : g.locals.size = c.maxLocals) (hlen : ∀ sig, parseMethodDescriptor y.desc = some sig → argsL.length = sig.parameters.length) (hstack : g.stack = argsL.reverse ++ rest) (hW : 2 * g.monitorRoom + (rest.map fun v => v.category).sum ≤ W) (hdg : decode c.code g.pc = .ok (.invokestatic index, 3))
    (K : ∀ (T' : State) (L : List Loc) (v : Option Value), Stand p l e R s m args below meth c T' (locs ++ L) (k + rm.cells) (j + rm.slots) → Qr v T'.heap L → own_E p e below Q T' { g with pc := g.pc + 3, stack := v.toList ++ rest }) : own_E p e below Q T g := by
  obtain ⟨v, vm1, ⟨T', L', k', j'⟩, -, X', ⟨Lc, hQ, l', y', z'⟩, st⟩ := Jvm.LawKit.callS X hx (y := y) hown (mvT hZ wl) (mvT hZ wst) (mvT hZ wi) (mvT hZ wc) hy (backOf (W := W) (hM []) hZ wc wi hf hl) hg hsize hlen hstack hW hdg (fun _ _ => ⟨rfl, rfl, hck, hcj⟩)
  dsimp only [Pt.U, Pt.locs, Pt.cells, Pt.slots] at X' l' y' z' st hQ
  subst l' y' z'
  exact own_st st (K _ _ _ X' hQ)
theorem own_tr {P : Heap → Prop} {h h' : Heap} (q : h' = h) (i : P h) : P h' := q ▸ i
theorem own_pop2L {tb : Tables} [Ours tb] {target : State} {g : JFrame} (h : At T m c below) (hx : tb.exec = Jvm.exec) (hg : g.method = m) {x : Int64} {rest : List Value} (hd : decode c.code g.pc = .ok (.pop2, 1)) (hs : g.stack = .long x :: rest)
    (hr : Steps tb e below (T.setTop { g with pc := g.pc + 1, stack := rest }) target) : Steps tb e below (T.setTop g) target := by
  subst hg
  jvm_step h [h.top, hx, hd, hs]
  exact hr
theorem own_callC {own : String} {index : Nat} {y : MethodName} {bytes : ByteArray} {maxL W : Nat} {rm : Room} {Qr : Option Value → Heap → List Loc → Prop} {Q : Outcome → State → Prop} {g : JFrame} {a : Addr} {argsL rest : List Value}
    (X : Stand p l e R s m args below meth c T locs k j) (hx : p.tables.exec = Jvm.exec) (hZ : Z.Warmed39 s.vm) (hy1 : y.name = "<init>") (hown : s.vm.findClass own = some m.cls) (wl : (Cond.methodLink own index y).before a0 Z = true) (wm : (Cond.instanceMethod y).before a0 Z = true) (wi : (Cond.initialized y.cls).before a0 Z = true) (wc : (Cond.code y bytes maxL none).before a0 Z = true)
    (hy : y.cls ≠ "java/lang/invoke/MethodHandle" ∧ y.cls ≠ "java/lang/invoke/VarHandle") (hM : own_M l Z y bytes maxL none rm (.ref a :: argsL).toArray T.heap Qr) (hf : rm.frames + 1 ≤ R.frames) (hl : W + (maxL + 11) + rm.locals ≤ R.locals) (hck : k + rm.cells ≤ R.cells) (hcj : j + rm.slots ≤ R.slots)
    (hg : g.method = m) (hsize : g.locals.size = c.maxLocals) (hlen : ∀ sig, parseMethodDescriptor y.desc = some sig → argsL.length = sig.parameters.length) (hstack : g.stack = argsL.reverse ++ .ref a :: rest) (hW : 2 * g.monitorRoom + (rest.map fun v => v.category).sum ≤ W) (hdg : decode c.code g.pc = .ok (.invokespecial index, 3))
    (K : ∀ (T' : State) (L : List Loc) (v : Option Value), Stand p l e R s m args below meth c T' (locs ++ L) (k + rm.cells) (j + rm.slots) → Qr v T'.heap L → own_E p e below Q T' { g with pc := g.pc + 3, stack := v.toList ++ rest }) : own_E p e below Q T g := by
  obtain ⟨v, vm1, ⟨T', L', k', j'⟩, -, X', ⟨Lc, hQ, l', y', z'⟩, st⟩ := X.specialBack hx (y := y) hy1 hown (mvT hZ wl) (mvT hZ wm) (mvT hZ wc) hy (backOf (W := W) (hM []) hZ wc wi hf hl) hg hsize (Steps.refl _) (a := a) hlen hstack hW hdg (fun _ _ => ⟨rfl, rfl, hck, hcj⟩)
  dsimp only [Pt.U, Pt.locs, Pt.cells, Pt.slots] at X' l' y' z' st hQ
  subst l' y' z'
  exact own_sy st (K _ _ _ X' hQ)
theorem own_callV {own : String} {index : Nat} {y : MethodName} {bytes : ByteArray} {maxL W : Nat} {ret : Option FieldType} {rm : Room} {Qr : Option Value → Heap → List Loc → Prop} {Q : Outcome → State → Prop} {g : JFrame} {a : Addr} {argsL rest : List Value}
    (X : Stand p l e R s m args below meth c T locs k j) (hx : p.tables.exec = Jvm.exec) (hZ : Z.Warmed39 s.vm) (hown : s.vm.findClass own = some m.cls) (wl : (Cond.methodLink own index y).before a0 Z = true) (wd : (Cond.declares y).before a0 Z = true) (wsel : (Cond.selects y.cls y y).before a0 Z = true) (wm : (Cond.instanceMethod y).before a0 Z = true) (wi : (Cond.initialized y.cls).before a0 Z = true) (wc : (Cond.code y bytes maxL ret).before a0 Z = true)
    (hy : y.cls ≠ "java/lang/invoke/MethodHandle" ∧ y.cls ≠ "java/lang/invoke/VarHandle") (E : Exa Z T.heap a y.cls) (hM : own_M l Z y bytes maxL ret rm (.ref a :: argsL).toArray T.heap Qr) (hf : rm.frames + 1 ≤ R.frames) (hl : W + (maxL + 11) + rm.locals ≤ R.locals) (hck : k + rm.cells ≤ R.cells) (hcj : j + rm.slots ≤ R.slots)
    (hg : g.method = m) (hsize : g.locals.size = c.maxLocals) (hlen : ∀ sig, parseMethodDescriptor y.desc = some sig → argsL.length = sig.parameters.length) (hstack : g.stack = argsL.reverse ++ .ref a :: rest) (hW : 2 * g.monitorRoom + (rest.map fun v => v.category).sum ≤ W) (hdg : decode c.code g.pc = .ok (.invokevirtual index, 3))
    (K : ∀ (T' : State) (L : List Loc) (v : Option Value), Stand p l e R s m args below meth c T' (locs ++ L) (k + rm.cells) (j + rm.slots) → Qr v T'.heap L → own_E p e below Q T' { g with pc := g.pc + 3, stack := v.toList ++ rest }) : own_E p e below Q T g := by
  obtain ⟨cB, kB, qa, qb, qc⟩ := isOf (T := T) hZ rfl E
  obtain ⟨v, vm1, ⟨T', L', k', j'⟩, -, X', ⟨Lc, hQ, l', y', z'⟩, st⟩ := X.virtualBack hx (y := y) (z := y) hown (mvT hZ wl) (mvT hZ wd) (notFace_of_selects (args := #[]) (mvT hZ wsel)) (mvT hZ wsel) (mvT hZ wm) hy (backOf (W := W) (hM []) hZ wc wi hf hl) qa qc hg hsize (Steps.refl _) hlen hstack hW hdg (fun _ _ => ⟨rfl, rfl, hck, hcj⟩)
  dsimp only [Pt.U, Pt.locs, Pt.cells, Pt.slots] at X' l' y' z' st hQ
  subst l' y' z'
  exact own_sy st (K _ _ _ X' hQ)
theorem own_sel {y z : MethodName} (h : (Cond.selects z.cls z z).before args s = true) (hc : y.cls = z.cls) (hpriv : s.PrivateAt y) (hinst : (Cond.instanceMethod y).before args s = true) (hy : y.cls ≠ "java/lang/invoke/MethodHandle" ∧ y.cls ≠ "java/lang/invoke/VarHandle") : (Cond.selects y.cls y y).before args s = true := by
  obtain ⟨c2, r2, m2, -, -, q3, -, kP, hkP, hkPi⟩ := Cond.selects_spec h
  exact Stand.selects_self_of_private (by rw [hc]; exact findClass_of_methodNamed q3) hkP hkPi hpriv hinst hy
theorem own_callP {own : String} {index : Nat} {y z : MethodName} {bytes : ByteArray} {maxL W : Nat} {ret : Option FieldType} {rm : Room} {Qr : Option Value → Heap → List Loc → Prop} {Q : Outcome → State → Prop} {g : JFrame} {a : Addr} {argsL rest : List Value}
    (X : Stand p l e R s m args below meth c T locs k j) (hx : p.tables.exec = Jvm.exec) (hZ : Z.Warmed39 s.vm) (hown : s.vm.findClass own = some m.cls) (wl : (Cond.methodLink own index y).before a0 Z = true) (wsel : (Cond.selects z.cls z z).before a0 Z = true) (hc : y.cls = z.cls) (wp : (Cond.privateMethod y).before a0 Z = true) (wm : (Cond.instanceMethod y).before a0 Z = true) (wi : (Cond.initialized y.cls).before a0 Z = true) (wc : (Cond.code y bytes maxL ret).before a0 Z = true)
    (hy : y.cls ≠ "java/lang/invoke/MethodHandle" ∧ y.cls ≠ "java/lang/invoke/VarHandle") (E : Exa Z T.heap a y.cls) (hM : own_M l Z y bytes maxL ret rm (.ref a :: argsL).toArray T.heap Qr) (hf : rm.frames + 1 ≤ R.frames) (hl : W + (maxL + 11) + rm.locals ≤ R.locals) (hck : k + rm.cells ≤ R.cells) (hcj : j + rm.slots ≤ R.slots)
    (hg : g.method = m) (hsize : g.locals.size = c.maxLocals) (hlen : ∀ sig, parseMethodDescriptor y.desc = some sig → argsL.length = sig.parameters.length) (hstack : g.stack = argsL.reverse ++ .ref a :: rest) (hW : 2 * g.monitorRoom + (rest.map fun v => v.category).sum ≤ W) (hdg : decode c.code g.pc = .ok (.invokevirtual index, 3))
    (K : ∀ (T' : State) (L : List Loc) (v : Option Value), Stand p l e R s m args below meth c T' (locs ++ L) (k + rm.cells) (j + rm.slots) → Qr v T'.heap L → own_E p e below Q T' { g with pc := g.pc + 3, stack := v.toList ++ rest }) : own_E p e below Q T g := by
  obtain ⟨cq, q1, q2⟩ := E.cell
  have hpr := Cond.privateMethod_at (mvP hZ wp (args := args))
  obtain ⟨v, vm1, ⟨T', L', k', j'⟩, -, X', ⟨Lc, hQ, l', y', z'⟩, st⟩ := X.privateBack hx (y := y) hown (mvT hZ wl) (mvT hZ wm) (own_sel (z := z) (mvT hZ wsel) hc hpr (mvT hZ wm) hy) hpr (mvT hZ wc) hy (backOf (W := W) (hM []) hZ wc wi hf hl) hg hsize (Steps.refl _) (a := a) q1 q2 hlen hstack hW hdg (fun _ _ => ⟨rfl, rfl, hck, hcj⟩)
  dsimp only [Pt.U, Pt.locs, Pt.cells, Pt.slots] at X' l' y' z' st hQ
  subst l' y' z'
  exact own_sy st (K _ _ _ X' hQ)
end Own
theorem pn_1 : plainName "com/example/tomekeeper/tomekeeper/json/Utf8ByteCountPinLaw" = true := by first | (simp [plainName, overriddenIn]; done) | decide +kernel
theorem pd_1 : parseMethodDescriptor "(II)I" = some ⟨[.int, .int], some .int⟩ := by decide +kernel
theorem d1_0 : decode method_2_code 0 = .ok (.iload_n 0, 1) := by decide +kernel
theorem d1_1 : decode method_2_code 1 = .ok (.iload_n 1, 1) := by decide +kernel
theorem d1_2 : decode method_2_code 2 = .ok (.iushr, 1) := by decide +kernel
theorem d1_3 : decode method_2_code 3 = .ok (.ifCond .eq 7, 3) := by decide +kernel
theorem d1_6 : decode method_2_code 6 = .ok (.iconst 1, 1) := by decide +kernel
theorem d1_7 : decode method_2_code 7 = .ok (.goto 4, 3) := by decide +kernel
theorem d1_10 : decode method_2_code 10 = .ok (.iconst 0, 1) := by decide +kernel
theorem d1_11 : decode method_2_code 11 = .ok (.ireturn, 1) := by decide +kernel
theorem ef_1 (m : MethodId) (p0 : Int32) (p1 : Int32) : entryFrame m #[(.int p0), (.int p1)] 2 = (mkF m 0 #[.val (.int p0), .val (.int p1)] []) := by first | (simp [entryFrame, mkF, argsToLocals, Value.category, maxLocals]; done) | rfl
def F1_11 (x0 : Int32) (x1 : Int32) (y2 : Int32) : Int32 := y2
def F1_0 (x0 : Int32) (x1 : Int32) : Int32 := (if (XT.ushr x0 x1) = (0 : Int32) then (F1_11 x0 x1 (0 : Int32)) else (F1_11 x0 x1 (1 : Int32)))
set_option maxRecDepth 65536 in
set_option maxHeartbeats 40000000 in
theorem rm1 (l : Launch) (Z : State) (a0 : Array Value) (hw : ∀ d ∈ tables_1, d.before a0 Z = true) (p0 : Int32) (p1 : Int32) (h0 : Heap) (n0 : Nat) :
    own_M l Z (⟨"com/example/tomekeeper/tomekeeper/json/Utf8ByteCountPinLaw", "beyond", "(II)I"⟩ : MethodName) method_2_code 2 (some .int) ({ frames := 0, cells := 0, slots := 0, locals := 0 } : Room) #[(.int p0), (.int p1)] h0 (fun v h L => v = some (.int (F1_0 p0 p1)) ∧ Fr n0 L ∧ h = h0) := by
  refine own_body pn_1 ?_
  intro p e s m below meth c T hx hby hml hown hZ hret hlk hnm X eT
  have N := Fr.nil n0
  obtain ⟨w, hF⟩ : ∃ w, w = F1_0 p0 p1 := ⟨_, rfl⟩
  try rw [← hF]
  generalize hQ : own_Q s (fun v h L => v = some (.int w) ∧ Fr n0 L ∧ h = h0) ({ frames := 0, cells := 0, slots := 0, locals := 0 } : Room).cells ({ frames := 0, cells := 0, slots := 0, locals := 0 } : Room).slots = Qq
  refine own_st (fun _ k => castTop (ef_1 m p0 p1) k) ?_
  have B11 : ∀ (T : State) (L : List Loc) (x0 : Int32) (x1 : Int32) (y2 : Int32), Stand p l e ({ frames := 0, cells := 0, slots := 0, locals := 0 } : Room) s m #[(.int p0), (.int p1)] below meth c T L 0 0 → T.heap = h0 → Fr n0 L → w = F1_11 x0 x1 y2 → own_E p e below Qq T (mkF m 11 #[.val (.int x0), .val (.int x1)] [(.int y2)]) := by
    intro T L x0 x1 y2 X eT N hF
    rw [← hQ]
    exact own_retI X hx hlk hret (hb hby d1_11) (by decide) (by decide) ⟨by (rw [hF]; try rfl), N, eT⟩
  show own_E p e below Qq T (mkF m 0 #[.val (.int p0), .val (.int p1)] [])
  refine own_st (fun _ => XS.iloadN X.here hx rfl (hb hby d1_0) rfl) ?_
  show own_E p e below Qq T (mkF m 1 #[.val (.int p0), .val (.int p1)] [(.int p0)])
  refine own_st (fun _ => XS.iloadN X.here hx rfl (hb hby d1_1) rfl) ?_
  show own_E p e below Qq T (mkF m 2 #[.val (.int p0), .val (.int p1)] [(.int p1), (.int p0)])
  refine own_st (fun _ => XT.iushr X.here hx rfl (hb hby d1_2) rfl) ?_
  show own_E p e below Qq T (mkF m 3 #[.val (.int p0), .val (.int p1)] [(.int (XT.ushr p0 p1))])
  by_cases q3 : (XT.ushr p0 p1) = (0 : Int32)
  · replace hF := hF.trans (if_pos q3)
    refine own_st (fun _ => XS.ifYes X.here hx rfl (pc0 := 3) (pc' := 10) rfl (hb hby d1_3) rfl (XT.i0_eq_t q3) (by decide) (by decide)) ?_
    show own_E p e below Qq T (mkF m 10 #[.val (.int p0), .val (.int p1)] [])
    refine own_st (fun _ => XS.iconst X.here hx rfl (hb hby d1_10)) ?_
    show own_E p e below Qq T (mkF m 11 #[.val (.int p0), .val (.int p1)] [(.int (0 : Int32))])
    exact B11 _ _ p0 p1 (0 : Int32) X eT N hF
  · replace hF := hF.trans (if_neg q3)
    refine own_st (fun _ => XS.ifNo X.here hx rfl (hb hby d1_3) rfl (XT.i0_eq_f q3)) ?_
    show own_E p e below Qq T (mkF m 6 #[.val (.int p0), .val (.int p1)] [])
    refine own_st (fun _ => XS.iconst X.here hx rfl (hb hby d1_6)) ?_
    show own_E p e below Qq T (mkF m 7 #[.val (.int p0), .val (.int p1)] [(.int (1 : Int32))])
    refine own_st (fun _ => XS.goto X.here hx rfl (pc0 := 7) (pc' := 11) rfl (hb hby d1_7) (by decide) (by decide)) ?_
    show own_E p e below Qq T (mkF m 11 #[.val (.int p0), .val (.int p1)] [(.int (1 : Int32))])
    exact B11 _ _ p0 p1 (1 : Int32) X eT N hF
theorem pn_2 : plainName "com/example/tomekeeper/tomekeeper/json/Utf8" = true := by first | (simp [plainName, overriddenIn]; done) | decide +kernel
theorem pd_2 : parseMethodDescriptor "(I)I" = some ⟨[.int], some .int⟩ := by decide +kernel
theorem d2_0 : decode prog_71_method_3_code 0 = .ok (.iload_n 0, 1) := by decide +kernel
theorem d2_1 : decode prog_71_method_3_code 1 = .ok (.sipush 128, 3) := by decide +kernel
theorem d2_4 : decode prog_71_method_3_code 4 = .ok (.if_icmp .ge 8, 3) := by decide +kernel
theorem d2_7 : decode prog_71_method_3_code 7 = .ok (.iconst 1, 1) := by decide +kernel
theorem d2_8 : decode prog_71_method_3_code 8 = .ok (.istore_n 1, 1) := by decide +kernel
theorem d2_9 : decode prog_71_method_3_code 9 = .ok (.goto 28, 3) := by decide +kernel
theorem d2_12 : decode prog_71_method_3_code 12 = .ok (.iload_n 0, 1) := by decide +kernel
theorem d2_13 : decode prog_71_method_3_code 13 = .ok (.sipush 2048, 3) := by decide +kernel
theorem d2_16 : decode prog_71_method_3_code 16 = .ok (.if_icmp .ge 8, 3) := by decide +kernel
theorem d2_19 : decode prog_71_method_3_code 19 = .ok (.iconst 2, 1) := by decide +kernel
theorem d2_20 : decode prog_71_method_3_code 20 = .ok (.istore_n 1, 1) := by decide +kernel
theorem d2_21 : decode prog_71_method_3_code 21 = .ok (.goto 16, 3) := by decide +kernel
theorem d2_24 : decode prog_71_method_3_code 24 = .ok (.iload_n 0, 1) := by decide +kernel
theorem d2_25 : decode prog_71_method_3_code 25 = .ok (.ldc 18, 2) := by decide +kernel
theorem d2_27 : decode prog_71_method_3_code 27 = .ok (.if_icmp .ge 8, 3) := by decide +kernel
theorem d2_30 : decode prog_71_method_3_code 30 = .ok (.iconst 3, 1) := by decide +kernel
theorem d2_31 : decode prog_71_method_3_code 31 = .ok (.istore_n 1, 1) := by decide +kernel
theorem d2_32 : decode prog_71_method_3_code 32 = .ok (.goto 5, 3) := by decide +kernel
theorem d2_35 : decode prog_71_method_3_code 35 = .ok (.iconst 4, 1) := by decide +kernel
theorem d2_36 : decode prog_71_method_3_code 36 = .ok (.istore_n 1, 1) := by decide +kernel
theorem d2_37 : decode prog_71_method_3_code 37 = .ok (.iload_n 1, 1) := by decide +kernel
theorem d2_38 : decode prog_71_method_3_code 38 = .ok (.ireturn, 1) := by decide +kernel
theorem ef_2 (m : MethodId) (p0 : Int32) : entryFrame m #[(.int p0)] 2 = (mkF m 0 #[.val (.int p0), .unset] []) := by first | (simp [entryFrame, mkF, argsToLocals, Value.category, maxLocals]; done) | rfl
def F2_37 (x0 : Int32) (x1 : Int32) : Int32 := x1
def F2_0 (x0 : Int32) : Int32 := (if x0 < (128 : Int32) then (F2_37 x0 (1 : Int32)) else (if x0 < (2048 : Int32) then (F2_37 x0 (2 : Int32)) else (if x0 < (65536 : Int32) then (F2_37 x0 (3 : Int32)) else (F2_37 x0 (4 : Int32)))))
set_option maxRecDepth 65536 in
set_option maxHeartbeats 40000000 in
theorem rm2 (l : Launch) (Z : State) (a0 : Array Value) (hw : ∀ d ∈ tables_1, d.before a0 Z = true) (p0 : Int32) (h0 : Heap) (n0 : Nat) :
    own_M l Z (⟨"com/example/tomekeeper/tomekeeper/json/Utf8", "byteCount", "(I)I"⟩ : MethodName) prog_71_method_3_code 2 (some .int) ({ frames := 0, cells := 0, slots := 0, locals := 0 } : Room) #[(.int p0)] h0 (fun v h L => v = some (.int (F2_0 p0)) ∧ Fr n0 L ∧ h = h0) := by
  refine own_body pn_2 ?_
  intro p e s m below meth c T hx hby hml hown hZ hret hlk hnm X eT
  have N := Fr.nil n0
  obtain ⟨w, hF⟩ : ∃ w, w = F2_0 p0 := ⟨_, rfl⟩
  try rw [← hF]
  generalize hQ : own_Q s (fun v h L => v = some (.int w) ∧ Fr n0 L ∧ h = h0) ({ frames := 0, cells := 0, slots := 0, locals := 0 } : Room).cells ({ frames := 0, cells := 0, slots := 0, locals := 0 } : Room).slots = Qq
  refine own_st (fun _ k => castTop (ef_2 m p0) k) ?_
  have B37 : ∀ (T : State) (L : List Loc) (x0 : Int32) (x1 : Int32), Stand p l e ({ frames := 0, cells := 0, slots := 0, locals := 0 } : Room) s m #[(.int p0)] below meth c T L 0 0 → T.heap = h0 → Fr n0 L → w = F2_37 x0 x1 → own_E p e below Qq T (mkF m 37 #[.val (.int x0), .val (.int x1)] []) := by
    intro T L x0 x1 X eT N hF
    refine own_st (fun _ => XS.iloadN X.here hx rfl (hb hby d2_37) rfl) ?_
    show own_E p e below Qq T (mkF m 38 #[.val (.int x0), .val (.int x1)] [(.int x1)])
    rw [← hQ]
    exact own_retI X hx hlk hret (hb hby d2_38) (by decide) (by decide) ⟨by (rw [hF]; try rfl), N, eT⟩
  show own_E p e below Qq T (mkF m 0 #[.val (.int p0), .unset] [])
  refine own_st (fun _ => XS.iloadN X.here hx rfl (hb hby d2_0) rfl) ?_
  show own_E p e below Qq T (mkF m 1 #[.val (.int p0), .unset] [(.int p0)])
  refine own_st (fun _ => XS.sipush X.here hx rfl (hb hby d2_1)) ?_
  show own_E p e below Qq T (mkF m 4 #[.val (.int p0), .unset] [(.int (128 : Int32)), (.int p0)])
  by_cases q4 : p0 < (128 : Int32)
  · replace hF := hF.trans (if_pos q4)
    refine own_st (fun _ => XS.icmpNo X.here hx rfl (hb hby d2_4) rfl (XT.ii_ge_f q4)) ?_
    show own_E p e below Qq T (mkF m 7 #[.val (.int p0), .unset] [])
    refine own_st (fun _ => XS.iconst X.here hx rfl (hb hby d2_7)) ?_
    show own_E p e below Qq T (mkF m 8 #[.val (.int p0), .unset] [(.int (1 : Int32))])
    refine own_st (fun _ => XS.istoreN X.here hx rfl (hb hby d2_8) rfl (l' := #[.val (.int p0), .val (.int (1 : Int32))]) rfl) ?_
    show own_E p e below Qq T (mkF m 9 #[.val (.int p0), .val (.int (1 : Int32))] [])
    refine own_st (fun _ => XS.goto X.here hx rfl (pc0 := 9) (pc' := 37) rfl (hb hby d2_9) (by decide) (by decide)) ?_
    show own_E p e below Qq T (mkF m 37 #[.val (.int p0), .val (.int (1 : Int32))] [])
    exact B37 _ _ p0 (1 : Int32) X eT N hF
  · replace hF := hF.trans (if_neg q4)
    refine own_st (fun _ => XS.icmpYes X.here hx rfl (pc0 := 4) (pc' := 12) rfl (hb hby d2_4) rfl (XT.ii_ge_t q4) (by decide) (by decide)) ?_
    show own_E p e below Qq T (mkF m 12 #[.val (.int p0), .unset] [])
    refine own_st (fun _ => XS.iloadN X.here hx rfl (hb hby d2_12) rfl) ?_
    show own_E p e below Qq T (mkF m 13 #[.val (.int p0), .unset] [(.int p0)])
    refine own_st (fun _ => XS.sipush X.here hx rfl (hb hby d2_13)) ?_
    show own_E p e below Qq T (mkF m 16 #[.val (.int p0), .unset] [(.int (2048 : Int32)), (.int p0)])
    by_cases q16 : p0 < (2048 : Int32)
    · replace hF := hF.trans (if_pos q16)
      refine own_st (fun _ => XS.icmpNo X.here hx rfl (hb hby d2_16) rfl (XT.ii_ge_f q16)) ?_
      show own_E p e below Qq T (mkF m 19 #[.val (.int p0), .unset] [])
      refine own_st (fun _ => XS.iconst X.here hx rfl (hb hby d2_19)) ?_
      show own_E p e below Qq T (mkF m 20 #[.val (.int p0), .unset] [(.int (2 : Int32))])
      refine own_st (fun _ => XS.istoreN X.here hx rfl (hb hby d2_20) rfl (l' := #[.val (.int p0), .val (.int (2 : Int32))]) rfl) ?_
      show own_E p e below Qq T (mkF m 21 #[.val (.int p0), .val (.int (2 : Int32))] [])
      refine own_st (fun _ => XS.goto X.here hx rfl (pc0 := 21) (pc' := 37) rfl (hb hby d2_21) (by decide) (by decide)) ?_
      show own_E p e below Qq T (mkF m 37 #[.val (.int p0), .val (.int (2 : Int32))] [])
      exact B37 _ _ p0 (2 : Int32) X eT N hF
    · replace hF := hF.trans (if_neg q16)
      refine own_st (fun _ => XS.icmpYes X.here hx rfl (pc0 := 16) (pc' := 24) rfl (hb hby d2_16) rfl (XT.ii_ge_t q16) (by decide) (by decide)) ?_
      show own_E p e below Qq T (mkF m 24 #[.val (.int p0), .unset] [])
      refine own_st (fun _ => XS.iloadN X.here hx rfl (hb hby d2_24) rfl) ?_
      show own_E p e below Qq T (mkF m 25 #[.val (.int p0), .unset] [(.int p0)])
      refine own_st (fun _ => X.ldcI hx hown (mvT hZ (hw _ (List.mem_of_getElem? (i := 9) rfl))) rfl (hb hby d2_25)) ?_
      show own_E p e below Qq T (mkF m 27 #[.val (.int p0), .unset] [(.int (65536 : Int32)), (.int p0)])
      by_cases q27 : p0 < (65536 : Int32)
      · replace hF := hF.trans (if_pos q27)
        refine own_st (fun _ => XS.icmpNo X.here hx rfl (hb hby d2_27) rfl (XT.ii_ge_f q27)) ?_
        show own_E p e below Qq T (mkF m 30 #[.val (.int p0), .unset] [])
        refine own_st (fun _ => XS.iconst X.here hx rfl (hb hby d2_30)) ?_
        show own_E p e below Qq T (mkF m 31 #[.val (.int p0), .unset] [(.int (3 : Int32))])
        refine own_st (fun _ => XS.istoreN X.here hx rfl (hb hby d2_31) rfl (l' := #[.val (.int p0), .val (.int (3 : Int32))]) rfl) ?_
        show own_E p e below Qq T (mkF m 32 #[.val (.int p0), .val (.int (3 : Int32))] [])
        refine own_st (fun _ => XS.goto X.here hx rfl (pc0 := 32) (pc' := 37) rfl (hb hby d2_32) (by decide) (by decide)) ?_
        show own_E p e below Qq T (mkF m 37 #[.val (.int p0), .val (.int (3 : Int32))] [])
        exact B37 _ _ p0 (3 : Int32) X eT N hF
      · replace hF := hF.trans (if_neg q27)
        refine own_st (fun _ => XS.icmpYes X.here hx rfl (pc0 := 27) (pc' := 35) rfl (hb hby d2_27) rfl (XT.ii_ge_t q27) (by decide) (by decide)) ?_
        show own_E p e below Qq T (mkF m 35 #[.val (.int p0), .unset] [])
        refine own_st (fun _ => XS.iconst X.here hx rfl (hb hby d2_35)) ?_
        show own_E p e below Qq T (mkF m 36 #[.val (.int p0), .unset] [(.int (4 : Int32))])
        refine own_st (fun _ => XS.istoreN X.here hx rfl (hb hby d2_36) rfl (l' := #[.val (.int p0), .val (.int (4 : Int32))]) rfl) ?_
        show own_E p e below Qq T (mkF m 37 #[.val (.int p0), .val (.int (4 : Int32))] [])
        exact B37 _ _ p0 (4 : Int32) X eT N hF
theorem ef_0 (m : MethodId) (p0 : Int32) : entryFrame m #[(.int p0)] maxLocals = (mkF m 0 #[.val (.int p0), .unset, .unset, .unset, .unset, .unset] []) := by first | (simp [entryFrame, mkF, argsToLocals, Value.category, maxLocals]; done) | rfl
def F0_73 (x0 : Int32) (x1 : Int32) (x2 : Int32) (x3 : Int32) (x4 : Int32) (x5 : Int32) (y6 : Int32) : Int32 := (nar .boolean y6)
def F0_72 (x0 : Int32) (x1 : Int32) (x2 : Int32) (x3 : Int32) (x4 : Int32) (x5 : Int32) : Int32 := (F0_73 x0 x1 x2 x3 x4 x5 (0 : Int32))
def F0_56 (x0 : Int32) (x1 : Int32) (x2 : Int32) (x3 : Int32) (x4 : Int32) (y5 : Int32) : Int32 := (if x3 = x2 then (if y5 = (0 : Int32) then (F0_72 x0 x1 x2 x3 x4 y5) else (F0_73 x0 x1 x2 x3 x4 y5 (1 : Int32))) else (F0_72 x0 x1 x2 x3 x4 y5))
def F0_55 (x0 : Int32) (x1 : Int32) (x2 : Int32) (x3 : Int32) (x4 : Int32) : Int32 := (F0_56 x0 x1 x2 x3 x4 (0 : Int32))
def F0_0 (x0 : Int32) : Int32 := (if (F2_0 x0) < (1 : Int32) then (F0_55 x0 (x0 &&& (2147483647 : Int32)) ((((1 : Int32) + (F1_0 (x0 &&& (2147483647 : Int32)) (7 : Int32))) + (F1_0 (x0 &&& (2147483647 : Int32)) (11 : Int32))) + (F1_0 (x0 &&& (2147483647 : Int32)) (16 : Int32))) (F2_0 (x0 &&& (2147483647 : Int32))) (F2_0 x0)) else (if (4 : Int32) < (F2_0 x0) then (F0_55 x0 (x0 &&& (2147483647 : Int32)) ((((1 : Int32) + (F1_0 (x0 &&& (2147483647 : Int32)) (7 : Int32))) + (F1_0 (x0 &&& (2147483647 : Int32)) (11 : Int32))) + (F1_0 (x0 &&& (2147483647 : Int32)) (16 : Int32))) (F2_0 (x0 &&& (2147483647 : Int32))) (F2_0 x0)) else (F0_56 x0 (x0 &&& (2147483647 : Int32)) ((((1 : Int32) + (F1_0 (x0 &&& (2147483647 : Int32)) (7 : Int32))) + (F1_0 (x0 &&& (2147483647 : Int32)) (11 : Int32))) + (F1_0 (x0 &&& (2147483647 : Int32)) (16 : Int32))) (F2_0 (x0 &&& (2147483647 : Int32))) (F2_0 x0) (1 : Int32))))
set_option maxRecDepth 65536 in
set_option maxHeartbeats 40000000 in
theorem rm0 (l : Launch) (Z : State) (a0 : Array Value) (hw : ∀ d ∈ tables_1, d.before a0 Z = true) (p0 : Int32) (h0 : Heap) (n0 : Nat) (Z0 : n0 ≤ h0.size) :
    own_M l Z x code maxLocals ret room_1 #[(.int p0)] h0 (fun v h L => v = some (.int (F0_0 p0)) ∧ Fr n0 L ∧ h = h0) := by
  refine own_body pn_1 ?_
  intro p e s m below meth c T hx hby hml hown hZ hret hlk hnm X eT
  have N := Fr.nil n0
  obtain ⟨w, hF⟩ : ∃ w, w = F0_0 p0 := ⟨_, rfl⟩
  try rw [← hF]
  generalize hQ : own_Q s (fun v h L => v = some (.int w) ∧ Fr n0 L ∧ h = h0) room_1.cells room_1.slots = Qq
  refine own_st (fun _ k => castTop (ef_0 m p0) k) ?_
  have B73 : ∀ (T : State) (L : List Loc) (x0 : Int32) (x1 : Int32) (x2 : Int32) (x3 : Int32) (x4 : Int32) (x5 : Int32) (y6 : Int32), Stand p l e room_1 s m #[(.int p0)] below meth c T L 0 0 → T.heap = h0 → Fr n0 L → w = F0_73 x0 x1 x2 x3 x4 x5 y6 → own_E p e below Qq T (mkF m 73 #[.val (.int x0), .val (.int x1), .val (.int x2), .val (.int x3), .val (.int x4), .val (.int x5)] [(.int y6)]) := by
    intro T L x0 x1 x2 x3 x4 x5 y6 X eT N hF
    rw [← hQ]
    exact own_retN X hx hlk (t := .boolean) hret (by simp) (hb hby at_73) (by decide) (by decide) ⟨by (rw [hF]; try rfl), N, eT⟩
  have B72 : ∀ (T : State) (L : List Loc) (x0 : Int32) (x1 : Int32) (x2 : Int32) (x3 : Int32) (x4 : Int32) (x5 : Int32), Stand p l e room_1 s m #[(.int p0)] below meth c T L 0 0 → T.heap = h0 → Fr n0 L → w = F0_72 x0 x1 x2 x3 x4 x5 → own_E p e below Qq T (mkF m 72 #[.val (.int x0), .val (.int x1), .val (.int x2), .val (.int x3), .val (.int x4), .val (.int x5)] []) := by
    intro T L x0 x1 x2 x3 x4 x5 X eT N hF
    refine own_st (fun _ => XS.iconst X.here hx rfl (hb hby at_72)) ?_
    show own_E p e below Qq T (mkF m 73 #[.val (.int x0), .val (.int x1), .val (.int x2), .val (.int x3), .val (.int x4), .val (.int x5)] [(.int (0 : Int32))])
    exact B73 _ _ x0 x1 x2 x3 x4 x5 (0 : Int32) X eT N hF
  have B56 : ∀ (T : State) (L : List Loc) (x0 : Int32) (x1 : Int32) (x2 : Int32) (x3 : Int32) (x4 : Int32) (y5 : Int32), Stand p l e room_1 s m #[(.int p0)] below meth c T L 0 0 → T.heap = h0 → Fr n0 L → w = F0_56 x0 x1 x2 x3 x4 y5 → own_E p e below Qq T (mkF m 56 #[.val (.int x0), .val (.int x1), .val (.int x2), .val (.int x3), .val (.int x4), .unset] [(.int y5)]) := by
    intro T L x0 x1 x2 x3 x4 y5 X eT N hF
    refine own_st (fun _ => XS.istore X.here hx rfl (hb hby at_56) rfl (l' := #[.val (.int x0), .val (.int x1), .val (.int x2), .val (.int x3), .val (.int x4), .val (.int y5)]) rfl) ?_
    show own_E p e below Qq T (mkF m 58 #[.val (.int x0), .val (.int x1), .val (.int x2), .val (.int x3), .val (.int x4), .val (.int y5)] [])
    refine own_st (fun _ => XS.iloadN X.here hx rfl (hb hby at_58) rfl) ?_
    show own_E p e below Qq T (mkF m 59 #[.val (.int x0), .val (.int x1), .val (.int x2), .val (.int x3), .val (.int x4), .val (.int y5)] [(.int x3)])
    refine own_st (fun _ => XS.iloadN X.here hx rfl (hb hby at_59) rfl) ?_
    show own_E p e below Qq T (mkF m 60 #[.val (.int x0), .val (.int x1), .val (.int x2), .val (.int x3), .val (.int x4), .val (.int y5)] [(.int x2), (.int x3)])
    by_cases q60 : x3 = x2
    · replace hF := hF.trans (if_pos q60)
      refine own_st (fun _ => XS.icmpNo X.here hx rfl (hb hby at_60) rfl (XT.ii_ne_f q60)) ?_
      show own_E p e below Qq T (mkF m 63 #[.val (.int x0), .val (.int x1), .val (.int x2), .val (.int x3), .val (.int x4), .val (.int y5)] [])
      refine own_st (fun _ => XS.iload X.here hx rfl (hb hby at_63) rfl) ?_
      show own_E p e below Qq T (mkF m 65 #[.val (.int x0), .val (.int x1), .val (.int x2), .val (.int x3), .val (.int x4), .val (.int y5)] [(.int y5)])
      by_cases q65 : y5 = (0 : Int32)
      · replace hF := hF.trans (if_pos q65)
        refine own_st (fun _ => XS.ifYes X.here hx rfl (pc0 := 65) (pc' := 72) rfl (hb hby at_65) rfl (XT.i0_eq_t q65) (by decide) (by decide)) ?_
        show own_E p e below Qq T (mkF m 72 #[.val (.int x0), .val (.int x1), .val (.int x2), .val (.int x3), .val (.int x4), .val (.int y5)] [])
        exact B72 _ _ x0 x1 x2 x3 x4 y5 X eT N hF
      · replace hF := hF.trans (if_neg q65)
        refine own_st (fun _ => XS.ifNo X.here hx rfl (hb hby at_65) rfl (XT.i0_eq_f q65)) ?_
        show own_E p e below Qq T (mkF m 68 #[.val (.int x0), .val (.int x1), .val (.int x2), .val (.int x3), .val (.int x4), .val (.int y5)] [])
        refine own_st (fun _ => XS.iconst X.here hx rfl (hb hby at_68)) ?_
        show own_E p e below Qq T (mkF m 69 #[.val (.int x0), .val (.int x1), .val (.int x2), .val (.int x3), .val (.int x4), .val (.int y5)] [(.int (1 : Int32))])
        refine own_st (fun _ => XS.goto X.here hx rfl (pc0 := 69) (pc' := 73) rfl (hb hby at_69) (by decide) (by decide)) ?_
        show own_E p e below Qq T (mkF m 73 #[.val (.int x0), .val (.int x1), .val (.int x2), .val (.int x3), .val (.int x4), .val (.int y5)] [(.int (1 : Int32))])
        exact B73 _ _ x0 x1 x2 x3 x4 y5 (1 : Int32) X eT N hF
    · replace hF := hF.trans (if_neg q60)
      refine own_st (fun _ => XS.icmpYes X.here hx rfl (pc0 := 60) (pc' := 72) rfl (hb hby at_60) rfl (XT.ii_ne_t q60) (by decide) (by decide)) ?_
      show own_E p e below Qq T (mkF m 72 #[.val (.int x0), .val (.int x1), .val (.int x2), .val (.int x3), .val (.int x4), .val (.int y5)] [])
      exact B72 _ _ x0 x1 x2 x3 x4 y5 X eT N hF
  have B55 : ∀ (T : State) (L : List Loc) (x0 : Int32) (x1 : Int32) (x2 : Int32) (x3 : Int32) (x4 : Int32), Stand p l e room_1 s m #[(.int p0)] below meth c T L 0 0 → T.heap = h0 → Fr n0 L → w = F0_55 x0 x1 x2 x3 x4 → own_E p e below Qq T (mkF m 55 #[.val (.int x0), .val (.int x1), .val (.int x2), .val (.int x3), .val (.int x4), .unset] []) := by
    intro T L x0 x1 x2 x3 x4 X eT N hF
    refine own_st (fun _ => XS.iconst X.here hx rfl (hb hby at_55)) ?_
    show own_E p e below Qq T (mkF m 56 #[.val (.int x0), .val (.int x1), .val (.int x2), .val (.int x3), .val (.int x4), .unset] [(.int (0 : Int32))])
    exact B56 _ _ x0 x1 x2 x3 x4 (0 : Int32) X eT N hF
  show own_E p e below Qq T (mkF m 0 #[.val (.int p0), .unset, .unset, .unset, .unset, .unset] [])
  refine own_st (fun _ => XS.iloadN X.here hx rfl (hb hby at_0) rfl) ?_
  show own_E p e below Qq T (mkF m 1 #[.val (.int p0), .unset, .unset, .unset, .unset, .unset] [(.int p0)])
  refine own_st (fun _ => X.ldcI hx hown (mvT hZ (hw _ (List.mem_of_getElem? (i := 0) rfl))) rfl (hb hby at_1)) ?_
  show own_E p e below Qq T (mkF m 3 #[.val (.int p0), .unset, .unset, .unset, .unset, .unset] [(.int (2147483647 : Int32)), (.int p0)])
  refine own_st (fun _ => XS.iand X.here hx rfl (hb hby at_3) rfl) ?_
  show own_E p e below Qq T (mkF m 4 #[.val (.int p0), .unset, .unset, .unset, .unset, .unset] [(.int (p0 &&& (2147483647 : Int32)))])
  refine own_st (fun _ => XS.istoreN X.here hx rfl (hb hby at_4) rfl (l' := #[.val (.int p0), .val (.int (p0 &&& (2147483647 : Int32))), .unset, .unset, .unset, .unset]) rfl) ?_
  show own_E p e below Qq T (mkF m 5 #[.val (.int p0), .val (.int (p0 &&& (2147483647 : Int32))), .unset, .unset, .unset, .unset] [])
  refine own_st (fun _ => XS.iconst X.here hx rfl (hb hby at_5)) ?_
  show own_E p e below Qq T (mkF m 6 #[.val (.int p0), .val (.int (p0 &&& (2147483647 : Int32))), .unset, .unset, .unset, .unset] [(.int (1 : Int32))])
  refine own_st (fun _ => XS.iloadN X.here hx rfl (hb hby at_6) rfl) ?_
  show own_E p e below Qq T (mkF m 7 #[.val (.int p0), .val (.int (p0 &&& (2147483647 : Int32))), .unset, .unset, .unset, .unset] [(.int (p0 &&& (2147483647 : Int32))), (.int (1 : Int32))])
  refine own_st (fun _ => XS.bipush X.here hx rfl (hb hby at_7)) ?_
  show own_E p e below Qq T (mkF m 9 #[.val (.int p0), .val (.int (p0 &&& (2147483647 : Int32))), .unset, .unset, .unset, .unset] [(.int (7 : Int32)), (.int (p0 &&& (2147483647 : Int32))), (.int (1 : Int32))])
  refine own_callS X hx hZ hown (hw _ (List.mem_of_getElem? (i := 1) rfl)) (hw _ (List.mem_of_getElem? (i := 2) rfl)) (hw _ (List.mem_of_getElem? (i := 3) rfl)) (hw _ (List.mem_of_getElem? (i := 4) rfl)) (by decide) (W := 1) (argsL := [(.int (p0 &&& (2147483647 : Int32))), (.int (7 : Int32))]) (rest := [(.int (1 : Int32))]) (rm1 l Z a0 hw (p0 &&& (2147483647 : Int32)) (7 : Int32) _ n0) (by decide) (by decide) (by decide) (by decide) rfl (by rw [hml]; rfl) (lenOf pd_1 rfl) rfl (by show 2 * 0 + _ ≤ _; exact Nat.le_of_eq rfl) (hb hby at_9) ?_
  intro T1 L1 v X' hq
  obtain ⟨rfl, N', e'⟩ := hq
  replace eT := e'.trans eT
  replace N := Fr.app N N'
  replace X : Stand p l e room_1 s m #[(.int p0)] below meth c T1 _ 0 0 := X'
  clear X' N' e'
  show own_E p e below Qq T1 (mkF m 12 #[.val (.int p0), .val (.int (p0 &&& (2147483647 : Int32))), .unset, .unset, .unset, .unset] [(.int (F1_0 (p0 &&& (2147483647 : Int32)) (7 : Int32))), (.int (1 : Int32))])
  refine own_st (fun _ => XS.iadd X.here hx rfl (hb hby at_12) rfl) ?_
  show own_E p e below Qq T1 (mkF m 13 #[.val (.int p0), .val (.int (p0 &&& (2147483647 : Int32))), .unset, .unset, .unset, .unset] [(.int ((1 : Int32) + (F1_0 (p0 &&& (2147483647 : Int32)) (7 : Int32))))])
  refine own_st (fun _ => XS.iloadN X.here hx rfl (hb hby at_13) rfl) ?_
  show own_E p e below Qq T1 (mkF m 14 #[.val (.int p0), .val (.int (p0 &&& (2147483647 : Int32))), .unset, .unset, .unset, .unset] [(.int (p0 &&& (2147483647 : Int32))), (.int ((1 : Int32) + (F1_0 (p0 &&& (2147483647 : Int32)) (7 : Int32))))])
  refine own_st (fun _ => XS.bipush X.here hx rfl (hb hby at_14)) ?_
  show own_E p e below Qq T1 (mkF m 16 #[.val (.int p0), .val (.int (p0 &&& (2147483647 : Int32))), .unset, .unset, .unset, .unset] [(.int (11 : Int32)), (.int (p0 &&& (2147483647 : Int32))), (.int ((1 : Int32) + (F1_0 (p0 &&& (2147483647 : Int32)) (7 : Int32))))])
  refine own_callS X hx hZ hown (hw _ (List.mem_of_getElem? (i := 1) rfl)) (hw _ (List.mem_of_getElem? (i := 2) rfl)) (hw _ (List.mem_of_getElem? (i := 3) rfl)) (hw _ (List.mem_of_getElem? (i := 4) rfl)) (by decide) (W := 1) (argsL := [(.int (p0 &&& (2147483647 : Int32))), (.int (11 : Int32))]) (rest := [(.int ((1 : Int32) + (F1_0 (p0 &&& (2147483647 : Int32)) (7 : Int32))))]) (rm1 l Z a0 hw (p0 &&& (2147483647 : Int32)) (11 : Int32) _ n0) (by decide) (by decide) (by decide) (by decide) rfl (by rw [hml]; rfl) (lenOf pd_1 rfl) rfl (by show 2 * 0 + _ ≤ _; exact Nat.le_of_eq rfl) (hb hby at_16) ?_
  intro T2 L2 v X' hq
  obtain ⟨rfl, N', e'⟩ := hq
  replace eT := e'.trans eT
  replace N := Fr.app N N'
  replace X : Stand p l e room_1 s m #[(.int p0)] below meth c T2 _ 0 0 := X'
  clear X' N' e'
  show own_E p e below Qq T2 (mkF m 19 #[.val (.int p0), .val (.int (p0 &&& (2147483647 : Int32))), .unset, .unset, .unset, .unset] [(.int (F1_0 (p0 &&& (2147483647 : Int32)) (11 : Int32))), (.int ((1 : Int32) + (F1_0 (p0 &&& (2147483647 : Int32)) (7 : Int32))))])
  refine own_st (fun _ => XS.iadd X.here hx rfl (hb hby at_19) rfl) ?_
  show own_E p e below Qq T2 (mkF m 20 #[.val (.int p0), .val (.int (p0 &&& (2147483647 : Int32))), .unset, .unset, .unset, .unset] [(.int (((1 : Int32) + (F1_0 (p0 &&& (2147483647 : Int32)) (7 : Int32))) + (F1_0 (p0 &&& (2147483647 : Int32)) (11 : Int32))))])
  refine own_st (fun _ => XS.iloadN X.here hx rfl (hb hby at_20) rfl) ?_
  show own_E p e below Qq T2 (mkF m 21 #[.val (.int p0), .val (.int (p0 &&& (2147483647 : Int32))), .unset, .unset, .unset, .unset] [(.int (p0 &&& (2147483647 : Int32))), (.int (((1 : Int32) + (F1_0 (p0 &&& (2147483647 : Int32)) (7 : Int32))) + (F1_0 (p0 &&& (2147483647 : Int32)) (11 : Int32))))])
  refine own_st (fun _ => XS.bipush X.here hx rfl (hb hby at_21)) ?_
  show own_E p e below Qq T2 (mkF m 23 #[.val (.int p0), .val (.int (p0 &&& (2147483647 : Int32))), .unset, .unset, .unset, .unset] [(.int (16 : Int32)), (.int (p0 &&& (2147483647 : Int32))), (.int (((1 : Int32) + (F1_0 (p0 &&& (2147483647 : Int32)) (7 : Int32))) + (F1_0 (p0 &&& (2147483647 : Int32)) (11 : Int32))))])
  refine own_callS X hx hZ hown (hw _ (List.mem_of_getElem? (i := 1) rfl)) (hw _ (List.mem_of_getElem? (i := 2) rfl)) (hw _ (List.mem_of_getElem? (i := 3) rfl)) (hw _ (List.mem_of_getElem? (i := 4) rfl)) (by decide) (W := 1) (argsL := [(.int (p0 &&& (2147483647 : Int32))), (.int (16 : Int32))]) (rest := [(.int (((1 : Int32) + (F1_0 (p0 &&& (2147483647 : Int32)) (7 : Int32))) + (F1_0 (p0 &&& (2147483647 : Int32)) (11 : Int32))))]) (rm1 l Z a0 hw (p0 &&& (2147483647 : Int32)) (16 : Int32) _ n0) (by decide) (by decide) (by decide) (by decide) rfl (by rw [hml]; rfl) (lenOf pd_1 rfl) rfl (by show 2 * 0 + _ ≤ _; exact Nat.le_of_eq rfl) (hb hby at_23) ?_
  intro T3 L3 v X' hq
  obtain ⟨rfl, N', e'⟩ := hq
  replace eT := e'.trans eT
  replace N := Fr.app N N'
  replace X : Stand p l e room_1 s m #[(.int p0)] below meth c T3 _ 0 0 := X'
  clear X' N' e'
  show own_E p e below Qq T3 (mkF m 26 #[.val (.int p0), .val (.int (p0 &&& (2147483647 : Int32))), .unset, .unset, .unset, .unset] [(.int (F1_0 (p0 &&& (2147483647 : Int32)) (16 : Int32))), (.int (((1 : Int32) + (F1_0 (p0 &&& (2147483647 : Int32)) (7 : Int32))) + (F1_0 (p0 &&& (2147483647 : Int32)) (11 : Int32))))])
  refine own_st (fun _ => XS.iadd X.here hx rfl (hb hby at_26) rfl) ?_
  show own_E p e below Qq T3 (mkF m 27 #[.val (.int p0), .val (.int (p0 &&& (2147483647 : Int32))), .unset, .unset, .unset, .unset] [(.int ((((1 : Int32) + (F1_0 (p0 &&& (2147483647 : Int32)) (7 : Int32))) + (F1_0 (p0 &&& (2147483647 : Int32)) (11 : Int32))) + (F1_0 (p0 &&& (2147483647 : Int32)) (16 : Int32))))])
  refine own_st (fun _ => XS.istoreN X.here hx rfl (hb hby at_27) rfl (l' := #[.val (.int p0), .val (.int (p0 &&& (2147483647 : Int32))), .val (.int ((((1 : Int32) + (F1_0 (p0 &&& (2147483647 : Int32)) (7 : Int32))) + (F1_0 (p0 &&& (2147483647 : Int32)) (11 : Int32))) + (F1_0 (p0 &&& (2147483647 : Int32)) (16 : Int32)))), .unset, .unset, .unset]) rfl) ?_
  show own_E p e below Qq T3 (mkF m 28 #[.val (.int p0), .val (.int (p0 &&& (2147483647 : Int32))), .val (.int ((((1 : Int32) + (F1_0 (p0 &&& (2147483647 : Int32)) (7 : Int32))) + (F1_0 (p0 &&& (2147483647 : Int32)) (11 : Int32))) + (F1_0 (p0 &&& (2147483647 : Int32)) (16 : Int32)))), .unset, .unset, .unset] [])
  refine own_st (fun _ => XS.iloadN X.here hx rfl (hb hby at_28) rfl) ?_
  show own_E p e below Qq T3 (mkF m 29 #[.val (.int p0), .val (.int (p0 &&& (2147483647 : Int32))), .val (.int ((((1 : Int32) + (F1_0 (p0 &&& (2147483647 : Int32)) (7 : Int32))) + (F1_0 (p0 &&& (2147483647 : Int32)) (11 : Int32))) + (F1_0 (p0 &&& (2147483647 : Int32)) (16 : Int32)))), .unset, .unset, .unset] [(.int (p0 &&& (2147483647 : Int32)))])
  refine own_callS X hx hZ hown (hw _ (List.mem_of_getElem? (i := 5) rfl)) (hw _ (List.mem_of_getElem? (i := 6) rfl)) (hw _ (List.mem_of_getElem? (i := 7) rfl)) (hw _ (List.mem_of_getElem? (i := 8) rfl)) (by decide) (W := 0) (argsL := [(.int (p0 &&& (2147483647 : Int32)))]) (rest := []) (rm2 l Z a0 hw (p0 &&& (2147483647 : Int32)) _ n0) (by decide) (by decide) (by decide) (by decide) rfl (by rw [hml]; rfl) (lenOf pd_2 rfl) rfl (by show 2 * 0 + _ ≤ _; exact Nat.le_of_eq rfl) (hb hby at_29) ?_
  intro T4 L4 v X' hq
  obtain ⟨rfl, N', e'⟩ := hq
  replace eT := e'.trans eT
  replace N := Fr.app N N'
  replace X : Stand p l e room_1 s m #[(.int p0)] below meth c T4 _ 0 0 := X'
  clear X' N' e'
  show own_E p e below Qq T4 (mkF m 32 #[.val (.int p0), .val (.int (p0 &&& (2147483647 : Int32))), .val (.int ((((1 : Int32) + (F1_0 (p0 &&& (2147483647 : Int32)) (7 : Int32))) + (F1_0 (p0 &&& (2147483647 : Int32)) (11 : Int32))) + (F1_0 (p0 &&& (2147483647 : Int32)) (16 : Int32)))), .unset, .unset, .unset] [(.int (F2_0 (p0 &&& (2147483647 : Int32))))])
  refine own_st (fun _ => XS.istoreN X.here hx rfl (hb hby at_32) rfl (l' := #[.val (.int p0), .val (.int (p0 &&& (2147483647 : Int32))), .val (.int ((((1 : Int32) + (F1_0 (p0 &&& (2147483647 : Int32)) (7 : Int32))) + (F1_0 (p0 &&& (2147483647 : Int32)) (11 : Int32))) + (F1_0 (p0 &&& (2147483647 : Int32)) (16 : Int32)))), .val (.int (F2_0 (p0 &&& (2147483647 : Int32)))), .unset, .unset]) rfl) ?_
  show own_E p e below Qq T4 (mkF m 33 #[.val (.int p0), .val (.int (p0 &&& (2147483647 : Int32))), .val (.int ((((1 : Int32) + (F1_0 (p0 &&& (2147483647 : Int32)) (7 : Int32))) + (F1_0 (p0 &&& (2147483647 : Int32)) (11 : Int32))) + (F1_0 (p0 &&& (2147483647 : Int32)) (16 : Int32)))), .val (.int (F2_0 (p0 &&& (2147483647 : Int32)))), .unset, .unset] [])
  refine own_st (fun _ => XS.iloadN X.here hx rfl (hb hby at_33) rfl) ?_
  show own_E p e below Qq T4 (mkF m 34 #[.val (.int p0), .val (.int (p0 &&& (2147483647 : Int32))), .val (.int ((((1 : Int32) + (F1_0 (p0 &&& (2147483647 : Int32)) (7 : Int32))) + (F1_0 (p0 &&& (2147483647 : Int32)) (11 : Int32))) + (F1_0 (p0 &&& (2147483647 : Int32)) (16 : Int32)))), .val (.int (F2_0 (p0 &&& (2147483647 : Int32)))), .unset, .unset] [(.int p0)])
  refine own_callS X hx hZ hown (hw _ (List.mem_of_getElem? (i := 5) rfl)) (hw _ (List.mem_of_getElem? (i := 6) rfl)) (hw _ (List.mem_of_getElem? (i := 7) rfl)) (hw _ (List.mem_of_getElem? (i := 8) rfl)) (by decide) (W := 0) (argsL := [(.int p0)]) (rest := []) (rm2 l Z a0 hw p0 _ n0) (by decide) (by decide) (by decide) (by decide) rfl (by rw [hml]; rfl) (lenOf pd_2 rfl) rfl (by show 2 * 0 + _ ≤ _; exact Nat.le_of_eq rfl) (hb hby at_34) ?_
  intro T5 L5 v X' hq
  obtain ⟨rfl, N', e'⟩ := hq
  replace eT := e'.trans eT
  replace N := Fr.app N N'
  replace X : Stand p l e room_1 s m #[(.int p0)] below meth c T5 _ 0 0 := X'
  clear X' N' e'
  show own_E p e below Qq T5 (mkF m 37 #[.val (.int p0), .val (.int (p0 &&& (2147483647 : Int32))), .val (.int ((((1 : Int32) + (F1_0 (p0 &&& (2147483647 : Int32)) (7 : Int32))) + (F1_0 (p0 &&& (2147483647 : Int32)) (11 : Int32))) + (F1_0 (p0 &&& (2147483647 : Int32)) (16 : Int32)))), .val (.int (F2_0 (p0 &&& (2147483647 : Int32)))), .unset, .unset] [(.int (F2_0 p0))])
  refine own_st (fun _ => XS.istore X.here hx rfl (hb hby at_37) rfl (l' := #[.val (.int p0), .val (.int (p0 &&& (2147483647 : Int32))), .val (.int ((((1 : Int32) + (F1_0 (p0 &&& (2147483647 : Int32)) (7 : Int32))) + (F1_0 (p0 &&& (2147483647 : Int32)) (11 : Int32))) + (F1_0 (p0 &&& (2147483647 : Int32)) (16 : Int32)))), .val (.int (F2_0 (p0 &&& (2147483647 : Int32)))), .val (.int (F2_0 p0)), .unset]) rfl) ?_
  show own_E p e below Qq T5 (mkF m 39 #[.val (.int p0), .val (.int (p0 &&& (2147483647 : Int32))), .val (.int ((((1 : Int32) + (F1_0 (p0 &&& (2147483647 : Int32)) (7 : Int32))) + (F1_0 (p0 &&& (2147483647 : Int32)) (11 : Int32))) + (F1_0 (p0 &&& (2147483647 : Int32)) (16 : Int32)))), .val (.int (F2_0 (p0 &&& (2147483647 : Int32)))), .val (.int (F2_0 p0)), .unset] [])
  refine own_st (fun _ => XS.iload X.here hx rfl (hb hby at_39) rfl) ?_
  show own_E p e below Qq T5 (mkF m 41 #[.val (.int p0), .val (.int (p0 &&& (2147483647 : Int32))), .val (.int ((((1 : Int32) + (F1_0 (p0 &&& (2147483647 : Int32)) (7 : Int32))) + (F1_0 (p0 &&& (2147483647 : Int32)) (11 : Int32))) + (F1_0 (p0 &&& (2147483647 : Int32)) (16 : Int32)))), .val (.int (F2_0 (p0 &&& (2147483647 : Int32)))), .val (.int (F2_0 p0)), .unset] [(.int (F2_0 p0))])
  refine own_st (fun _ => XS.iconst X.here hx rfl (hb hby at_41)) ?_
  show own_E p e below Qq T5 (mkF m 42 #[.val (.int p0), .val (.int (p0 &&& (2147483647 : Int32))), .val (.int ((((1 : Int32) + (F1_0 (p0 &&& (2147483647 : Int32)) (7 : Int32))) + (F1_0 (p0 &&& (2147483647 : Int32)) (11 : Int32))) + (F1_0 (p0 &&& (2147483647 : Int32)) (16 : Int32)))), .val (.int (F2_0 (p0 &&& (2147483647 : Int32)))), .val (.int (F2_0 p0)), .unset] [(.int (1 : Int32)), (.int (F2_0 p0))])
  by_cases q42 : (F2_0 p0) < (1 : Int32)
  · replace hF := hF.trans (if_pos q42)
    refine own_st (fun _ => XS.icmpYes X.here hx rfl (pc0 := 42) (pc' := 55) rfl (hb hby at_42) rfl (XT.ii_lt_t q42) (by decide) (by decide)) ?_
    show own_E p e below Qq T5 (mkF m 55 #[.val (.int p0), .val (.int (p0 &&& (2147483647 : Int32))), .val (.int ((((1 : Int32) + (F1_0 (p0 &&& (2147483647 : Int32)) (7 : Int32))) + (F1_0 (p0 &&& (2147483647 : Int32)) (11 : Int32))) + (F1_0 (p0 &&& (2147483647 : Int32)) (16 : Int32)))), .val (.int (F2_0 (p0 &&& (2147483647 : Int32)))), .val (.int (F2_0 p0)), .unset] [])
    exact B55 _ _ p0 (p0 &&& (2147483647 : Int32)) ((((1 : Int32) + (F1_0 (p0 &&& (2147483647 : Int32)) (7 : Int32))) + (F1_0 (p0 &&& (2147483647 : Int32)) (11 : Int32))) + (F1_0 (p0 &&& (2147483647 : Int32)) (16 : Int32))) (F2_0 (p0 &&& (2147483647 : Int32))) (F2_0 p0) X eT N hF
  · replace hF := hF.trans (if_neg q42)
    refine own_st (fun _ => XS.icmpNo X.here hx rfl (hb hby at_42) rfl (XT.ii_lt_f q42)) ?_
    show own_E p e below Qq T5 (mkF m 45 #[.val (.int p0), .val (.int (p0 &&& (2147483647 : Int32))), .val (.int ((((1 : Int32) + (F1_0 (p0 &&& (2147483647 : Int32)) (7 : Int32))) + (F1_0 (p0 &&& (2147483647 : Int32)) (11 : Int32))) + (F1_0 (p0 &&& (2147483647 : Int32)) (16 : Int32)))), .val (.int (F2_0 (p0 &&& (2147483647 : Int32)))), .val (.int (F2_0 p0)), .unset] [])
    refine own_st (fun _ => XS.iload X.here hx rfl (hb hby at_45) rfl) ?_
    show own_E p e below Qq T5 (mkF m 47 #[.val (.int p0), .val (.int (p0 &&& (2147483647 : Int32))), .val (.int ((((1 : Int32) + (F1_0 (p0 &&& (2147483647 : Int32)) (7 : Int32))) + (F1_0 (p0 &&& (2147483647 : Int32)) (11 : Int32))) + (F1_0 (p0 &&& (2147483647 : Int32)) (16 : Int32)))), .val (.int (F2_0 (p0 &&& (2147483647 : Int32)))), .val (.int (F2_0 p0)), .unset] [(.int (F2_0 p0))])
    refine own_st (fun _ => XS.iconst X.here hx rfl (hb hby at_47)) ?_
    show own_E p e below Qq T5 (mkF m 48 #[.val (.int p0), .val (.int (p0 &&& (2147483647 : Int32))), .val (.int ((((1 : Int32) + (F1_0 (p0 &&& (2147483647 : Int32)) (7 : Int32))) + (F1_0 (p0 &&& (2147483647 : Int32)) (11 : Int32))) + (F1_0 (p0 &&& (2147483647 : Int32)) (16 : Int32)))), .val (.int (F2_0 (p0 &&& (2147483647 : Int32)))), .val (.int (F2_0 p0)), .unset] [(.int (4 : Int32)), (.int (F2_0 p0))])
    by_cases q48 : (4 : Int32) < (F2_0 p0)
    · replace hF := hF.trans (if_pos q48)
      refine own_st (fun _ => XS.icmpYes X.here hx rfl (pc0 := 48) (pc' := 55) rfl (hb hby at_48) rfl (XT.ii_gt_t q48) (by decide) (by decide)) ?_
      show own_E p e below Qq T5 (mkF m 55 #[.val (.int p0), .val (.int (p0 &&& (2147483647 : Int32))), .val (.int ((((1 : Int32) + (F1_0 (p0 &&& (2147483647 : Int32)) (7 : Int32))) + (F1_0 (p0 &&& (2147483647 : Int32)) (11 : Int32))) + (F1_0 (p0 &&& (2147483647 : Int32)) (16 : Int32)))), .val (.int (F2_0 (p0 &&& (2147483647 : Int32)))), .val (.int (F2_0 p0)), .unset] [])
      exact B55 _ _ p0 (p0 &&& (2147483647 : Int32)) ((((1 : Int32) + (F1_0 (p0 &&& (2147483647 : Int32)) (7 : Int32))) + (F1_0 (p0 &&& (2147483647 : Int32)) (11 : Int32))) + (F1_0 (p0 &&& (2147483647 : Int32)) (16 : Int32))) (F2_0 (p0 &&& (2147483647 : Int32))) (F2_0 p0) X eT N hF
    · replace hF := hF.trans (if_neg q48)
      refine own_st (fun _ => XS.icmpNo X.here hx rfl (hb hby at_48) rfl (XT.ii_gt_f q48)) ?_
      show own_E p e below Qq T5 (mkF m 51 #[.val (.int p0), .val (.int (p0 &&& (2147483647 : Int32))), .val (.int ((((1 : Int32) + (F1_0 (p0 &&& (2147483647 : Int32)) (7 : Int32))) + (F1_0 (p0 &&& (2147483647 : Int32)) (11 : Int32))) + (F1_0 (p0 &&& (2147483647 : Int32)) (16 : Int32)))), .val (.int (F2_0 (p0 &&& (2147483647 : Int32)))), .val (.int (F2_0 p0)), .unset] [])
      refine own_st (fun _ => XS.iconst X.here hx rfl (hb hby at_51)) ?_
      show own_E p e below Qq T5 (mkF m 52 #[.val (.int p0), .val (.int (p0 &&& (2147483647 : Int32))), .val (.int ((((1 : Int32) + (F1_0 (p0 &&& (2147483647 : Int32)) (7 : Int32))) + (F1_0 (p0 &&& (2147483647 : Int32)) (11 : Int32))) + (F1_0 (p0 &&& (2147483647 : Int32)) (16 : Int32)))), .val (.int (F2_0 (p0 &&& (2147483647 : Int32)))), .val (.int (F2_0 p0)), .unset] [(.int (1 : Int32))])
      refine own_st (fun _ => XS.goto X.here hx rfl (pc0 := 52) (pc' := 56) rfl (hb hby at_52) (by decide) (by decide)) ?_
      show own_E p e below Qq T5 (mkF m 56 #[.val (.int p0), .val (.int (p0 &&& (2147483647 : Int32))), .val (.int ((((1 : Int32) + (F1_0 (p0 &&& (2147483647 : Int32)) (7 : Int32))) + (F1_0 (p0 &&& (2147483647 : Int32)) (11 : Int32))) + (F1_0 (p0 &&& (2147483647 : Int32)) (16 : Int32)))), .val (.int (F2_0 (p0 &&& (2147483647 : Int32)))), .val (.int (F2_0 p0)), .unset] [(.int (1 : Int32))])
      exact B56 _ _ p0 (p0 &&& (2147483647 : Int32)) ((((1 : Int32) + (F1_0 (p0 &&& (2147483647 : Int32)) (7 : Int32))) + (F1_0 (p0 &&& (2147483647 : Int32)) (11 : Int32))) + (F1_0 (p0 &&& (2147483647 : Int32)) (16 : Int32))) (F2_0 (p0 &&& (2147483647 : Int32))) (F2_0 p0) (1 : Int32) X eT N hF
theorem own_ushr (x y : Int32) : XT.ushr x y = (x.toUInt32 >>> (y &&& 31).toUInt32).toInt32 := rfl
theorem own_F1 (v q : Int32) (k : Nat) (b : Int32) (hk : q.toBitVec.toNat % 32 = k) (h0 : 0 < k) (hb : b.toInt = (2 ^ k : Nat)) (hv : 0 ≤ v.toInt) : F1_0 v q = if v < b then 0 else 1 := by
  have e := c_iushr v q k hk h0
  have hl := v.toInt_lt
  have e' : (XT.ushr v q).toInt = v.toInt / (2 ^ k : Nat) := by
    rw [own_ushr, e, Int.emod_eq_of_lt hv (by omega)]
  have hp : (0 : Int) < ((2 ^ k : Nat) : Int) := by exact_mod_cast Nat.two_pow_pos k
  by_cases c : v < b
  · rw [if_pos c]
    rw [Int32.lt_iff_toInt_lt, hb] at c
    have z : XT.ushr v q = 0 := Int32.toInt_inj.mp (by rw [e', Int.ediv_eq_zero_of_lt hv c]; rfl)
    rw [F1_0, if_pos z]; rfl
  · rw [if_neg c]
    rw [Int32.lt_iff_toInt_lt, hb] at c
    have z : ¬ XT.ushr v q = 0 := fun z => by
      have := congrArg Int32.toInt z
      rw [e'] at this
      have z' : v.toInt / ((2 ^ k : Nat) : Int) = 0 := this
      have := Int.le_ediv_of_mul_le hp (show 1 * ((2 ^ k : Nat) : Int) ≤ v.toInt by omega)
      omega
    rw [F1_0, if_neg z]; rfl
theorem own_law (p0 : Int32) : F0_0 p0 = 1 := by
  have m0 : (p0 &&& (2147483647 : Int32)).toInt = p0.toInt % (2 ^ 31 : Nat) := c_mask p0 2147483647 31 (by decide) (by decide)
  have hv : 0 ≤ (p0 &&& (2147483647 : Int32)).toInt := by omega
  have a7 := own_F1 _ 7 7 128 (by decide) (by decide) (by decide) hv
  have a11 := own_F1 _ 11 11 2048 (by decide) (by decide) (by decide) hv
  have a16 := own_F1 _ 16 16 65536 (by decide) (by decide) (by decide) hv
  have raw : ∀ v : Int32, ¬ F2_0 v < 1 ∧ ¬ 4 < F2_0 v := fun v => by
    have o : ∀ x y : Int32, F2_37 x y = y := fun _ _ => rfl
    unfold F2_0
    simp only [o]
    split
    · decide
    · split
      · decide
      · split <;> decide
  rw [F0_0, if_neg (raw p0).1, if_neg (raw p0).2, a7, a11, a16]
  generalize (p0 &&& (2147483647 : Int32)) = v at *
  have key : F2_0 v = 1 + (if v < 128 then 0 else 1) + (if v < 2048 then 0 else 1) + (if v < 65536 then 0 else 1) := by
    rw [F2_0]
    by_cases c1 : v < 128
    · have c2 : v < 2048 := by rw [Int32.lt_iff_toInt_lt] at c1 ⊢; exact Int.lt_trans c1 (by decide)
      have c3 : v < 65536 := by rw [Int32.lt_iff_toInt_lt] at c1 ⊢; exact Int.lt_trans c1 (by decide)
      simp only [if_pos c1, if_pos c2, if_pos c3]; rfl
    · by_cases c2 : v < 2048
      · have c3 : v < 65536 := by rw [Int32.lt_iff_toInt_lt] at c2 ⊢; exact Int.lt_trans c2 (by decide)
        simp only [if_neg c1, if_pos c2, if_pos c3]; rfl
      · by_cases c3 : v < 65536
        · simp only [if_neg c1, if_neg c2, if_pos c3]; rfl
        · simp only [if_neg c1, if_neg c2, if_neg c3]; rfl
  rw [F0_56, if_pos key]
  rfl
set_option maxRecDepth 65536 in
set_option maxHeartbeats 40000000 in
theorem comes_1 {Post : Tables → Env → Array Value → State → Outcome → State → Prop} (hpost : ∀ tb e args s v u, (limb_1_1.after args s (.returned v) u = true ∧ limb_1_2.after args s (.returned v) u = true ∧ True) → FrameEnd s (.returned v) u (Jvm.fieldLocs frame_1_writes args s ++ Jvm.arrayLocs frame_1_arrays args s ++ Jvm.staticLocs frame_1_statics s) 0 0 → Post tb e args s (.returned v) u) :
    ArmFor flags0 classFile x code maxLocals ret World_1 tables_1 room_1 Calls_1 rest_1 Pre_1 Post := by
  intro l hfl _ _ p e ha hc hk s m args below hf hA hF happ hP
  obtain ⟨hcalls, hrest, hpre⟩ := hP
  obtain ⟨-, -, -, hnamed, -, -, -, hat⟩ := (Spec.applies_iff hf).mp happ
  obtain ⟨hg, hn⟩ := and_e (Cond.before_iff.mp (show (Jvm.Cond.and given_1 narrow_1).before args s = true from hpre))
  obtain ⟨g0, hg⟩ := and_e hg
  obtain ⟨w0, rfl⟩ : ∃ w0 : Value, args = #[w0] := by
    have hs : args.size = 1 := by simpa [Cond.value, given_1] using g0
    obtain ⟨L⟩ := args
    match L, hs with
    | [w0], _ => exact ⟨w0, rfl⟩
  have hw := fun d (hd : d ∈ tables_1) => atoms_spec (ws := Jvm.Cond.code x code maxLocals ret :: tables_1) hat d (List.mem_cons_of_mem _ hd)
  have g1 := hg
  obtain ⟨i0, e0⟩ := is_v g1
  obtain rfl : w0 = (.int i0) := Option.some.inj e0
  obtain ⟨n, o, h1, h2, h3, _, L, rfl, ⟨rfl, N, _⟩, hq⟩ := rm0 l s _ hw i0 s.heap s.heap.size (Nat.le_refl _) tables_1 p e ha hc hk s m _ below hf ((Spec.applies_iff_loose hf).mp happ).1 ⟨rfl, State.Warmed39.refl s, rfl⟩ trivial
  refine ⟨n, _, h1, h2, h3, hpost _ _ _ _ _ _ ⟨Cond.after_iff.mpr rfl, Cond.after_iff.mpr (eq_i res_at (Term.int_eval (1)) (by rw [own_law i0]) rfl), trivial⟩ ⟨hq.1, hq.2.1, (hq.2.2.sift fun y hy => Or.inr (N y hy)).mono (by decide) (by decide)⟩⟩
theorem main_1_1 : Claimed_1_1 := comes_1 fun _ _ _ _ _ _ h hF => ⟨h.1, hF⟩
theorem main_1_2 : Claimed_1_2 := comes_1 fun _ _ _ _ _ _ h hF => ⟨h.2.1, hF⟩
end Jvm.Pilot.@@N@@
namespace Jvm.Pilot.@@N@@
open Jvm Jvm.ClassFile Sem Op Lib Jvm.Free Jvm.Stand Jvm.Pilot.@@N@@.Jvm.D
/-! MADE BY PROGRAM (witnessworld.py) out of the Statement's table words and the real class files: 9 classes; the members and pool entries that the words name. The judged class is class 1, her method 2. -/
namespace start1
open Jvm.ClassFile
def u (s : String) : CpInfo := .utf8 (stringToUtf16 s)
/-- a pool by its gaps: so many unusable entries, then the entry; so many at the end -/
def gap : Nat → List CpInfo → List CpInfo
  | 0, r => r
  | n + 1, r => .unusable :: gap n r
def poolList (es : List (Nat × CpInfo)) (last : Nat) : List CpInfo := es.foldr (fun e r => gap e.1 (e.2 :: r)) (gap last [])
def pool (es : List (Nat × CpInfo)) (last : Nat) : Array CpInfo := ⟨poolList es last⟩
def fileOf (pool : Array CpInfo) (this : Nat) (attrs : Array Attribute := #[]) (ms : Array MethodInfo := #[]) (fl : Nat := 33) (sup : Nat := 0) (ifs : Array Nat := #[]) (fds : Array FieldInfo := #[]) : ClassFile where
  minorVersion := 0
  majorVersion := 65
  constantPool := pool
  accessFlags := fl
  thisClass := this
  superClass := sup
  interfaces := ifs
  fields := fds
  methods := ms
  attributes := attrs
def plain (name : String) (sup : Option ClassId) : Class where
  name := name
  kind := .ordinary
  loader := none
  accessFlags := 33
  super := sup
  interfaces := #[]
  cf := none
  fields := #[]
  methods := #[]
  instanceTypes := #[]
  staticTypes := #[]
  resolved := #[]
  callSites := []
  init := .initialized
  statics := none
  mirror := none

def pool0 : Array CpInfo := pool [(5, u "<init>"), (0, u "()V"), (1, .class_ 10), (1, u "java/lang/Object")] 113

def k0m0 : Method := { name := "<init>", desc := "()V", sig := { parameters := [], returnType := none }, accessFlags := 1, code := none }
/-- java/lang/Object -/
def k0 : Class := { plain "java/lang/Object" none with
  accessFlags := 33
  interfaces := #[]
  cf := some (fileOf pool0 8 #[] #[{ accessFlags := 1, nameIndex := 5, descriptorIndex := 6, attributes := #[] }] 33 0 #[] #[])
  fields := #[]
  methods := #[k0m0]
  instanceTypes := #[]
  staticTypes := #[]
  resolved := Array.replicate 124 none
  statics := none }

def pool1 : Array CpInfo := pool [(2, .class_ 4), (1, u "java/lang/Object"), (0, u "<init>"), (0, u "()V"), (0, .integer 2147483647), (0, .methodref 9 10), (0, .class_ 11), (0, .nameAndType 12 13), (0, u "com/example/tomekeeper/tomekeeper/json/Utf8ByteCountPinLaw"), (0, u "beyond"), (0, u "(II)I"), (0, .methodref 15 16), (0, .class_ 17), (0, .nameAndType 18 19), (0, u "com/example/tomekeeper/tomekeeper/json/Utf8"), (0, u "byteCount"), (0, u "(I)I"), (3, u "law"), (0, u "(I)Z")] 2

def k1m0 : Method := { name := "<init>", desc := "()V", sig := { parameters := [], returnType := none }, accessFlags := 2, code := none }
def k1c1 : Code := { maxStack := 2, maxLocals := 2, code := method_2_code, exceptionTable := #[], attributes := #[] }
def k1m1 : Method := { name := "beyond", desc := "(II)I", sig := { parameters := [.int, .int], returnType := some .int }, accessFlags := 10, code := some k1c1 }
def k1c2 : Code := { maxStack := 3, maxLocals := 6, code := code, exceptionTable := #[], attributes := #[] }
def k1m2 : Method := { name := "law", desc := "(I)Z", sig := { parameters := [.int], returnType := some .boolean }, accessFlags := 9, code := some k1c2 }
/-- com/example/tomekeeper/tomekeeper/json/Utf8ByteCountPinLaw -/
def k1 : Class := { plain "com/example/tomekeeper/tomekeeper/json/Utf8ByteCountPinLaw" (some 0) with
  accessFlags := 49
  interfaces := #[]
  cf := some (fileOf pool1 9 #[] #[{ accessFlags := 2, nameIndex := 5, descriptorIndex := 6, attributes := #[] }, { accessFlags := 10, nameIndex := 12, descriptorIndex := 13, attributes := #[] }, { accessFlags := 9, nameIndex := 23, descriptorIndex := 24, attributes := #[] }] 49 2 #[] #[])
  fields := #[]
  methods := #[k1m0, k1m1, k1m2]
  instanceTypes := #[]
  staticTypes := #[]
  resolved := Array.replicate 27 none
  statics := none }

def pool2 : Array CpInfo := pool [(2, .class_ 4), (1, u "java/lang/Object"), (0, u "<init>"), (0, u "()V"), (0, .class_ 8), (0, u "com/example/tomekeeper/tomekeeper/json/Utf8"), (6, u "byteCount"), (0, u "(I)I"), (1, .integer 65536), (7, u "LEAST_LEAD"), (0, u "I"), (2, u "LEAST_TRIPLE"), (1, u "LEAST_QUADRUPLE")] 7

def k2m0 : Method := { name := "<init>", desc := "()V", sig := { parameters := [], returnType := none }, accessFlags := 2, code := none }
def k2c1 : Code := { maxStack := 2, maxLocals := 2, code := prog_71_method_3_code, exceptionTable := #[], attributes := #[] }
def k2m1 : Method := { name := "byteCount", desc := "(I)I", sig := { parameters := [.int], returnType := some .int }, accessFlags := 9, code := some k2c1 }
/-- com/example/tomekeeper/tomekeeper/json/Utf8 -/
def k2 : Class := { plain "com/example/tomekeeper/tomekeeper/json/Utf8" (some 0) with
  accessFlags := 49
  interfaces := #[]
  cf := some (fileOf pool2 7 #[] #[{ accessFlags := 2, nameIndex := 5, descriptorIndex := 6, attributes := #[] }, { accessFlags := 9, nameIndex := 15, descriptorIndex := 16, attributes := #[] }] 49 2 #[] #[{ accessFlags := 26, nameIndex := 26, descriptorIndex := 27, attributes := #[] }, { accessFlags := 26, nameIndex := 30, descriptorIndex := 27, attributes := #[] }, { accessFlags := 26, nameIndex := 32, descriptorIndex := 27, attributes := #[] }])
  fields := #[{ name := "LEAST_LEAD", type := .int, accessFlags := 26, slot := 0, constantValue := 0 }, { name := "LEAST_TRIPLE", type := .int, accessFlags := 26, slot := 1, constantValue := 0 }, { name := "LEAST_QUADRUPLE", type := .int, accessFlags := 26, slot := 2, constantValue := 0 }]
  methods := #[k2m0, k2m1]
  instanceTypes := #[]
  staticTypes := #[.int, .int, .int]
  resolved := Array.replicate 40 none
  statics := none }

def pool3 : Array CpInfo := pool [(1, u "java/lang/Cloneable"), (0, .class_ 1), (0, u "java/lang/Object"), (0, .class_ 3)] 3

/-- java/lang/Cloneable -/
def k3 : Class := { plain "java/lang/Cloneable" (some 0) with
  accessFlags := 1537
  interfaces := #[]
  cf := some (fileOf pool3 2 #[] #[] 1537 4 #[] #[])
  fields := #[]
  methods := #[]
  instanceTypes := #[]
  staticTypes := #[]
  resolved := Array.replicate 8 none
  statics := none }

def pool4 : Array CpInfo := pool [(1, u "java/io/Serializable"), (0, .class_ 1), (0, u "java/lang/Object"), (0, .class_ 3)] 3

/-- java/io/Serializable -/
def k4 : Class := { plain "java/io/Serializable" (some 0) with
  accessFlags := 1537
  interfaces := #[]
  cf := some (fileOf pool4 2 #[] #[] 1537 4 #[] #[])
  fields := #[]
  methods := #[]
  instanceTypes := #[]
  staticTypes := #[]
  resolved := Array.replicate 8 none
  statics := none }

/-- the primitive byte -/
def k5 : Class := { plain "byte" none with kind := .primitive 'B', accessFlags := 0x411 }
/-- [B -/
def k6 : Class := { plain "[B" (some 0) with kind := .array 5 .byte, interfaces := #[3, 4], accessFlags := 1041 }

/-- the primitive int -/
def k7 : Class := { plain "int" none with kind := .primitive 'I', accessFlags := 0x411 }
/-- [I -/
def k8 : Class := { plain "[I" (some 0) with kind := .array 7 .int, interfaces := #[3, 4], accessFlags := 1041 }

def heap : Heap := #[]
def classes : Array Class := #[k0, k1, k2, k3, k4, k5, k6, k7, k8]
def interned : List (Array UInt16 × Addr) := []
def slotsUsed : Nat := 0
def theMethod : MethodId := ⟨1, 2⟩
def args0 : Array Value := #[.int 5]
def aboutOver (below : List Frame) : State where
  vm := { classes := classes, interned := interned.toArray }
  heap := heap
  slotsUsed := slotsUsed
  threads := #[{ frames := .invoking theMethod args0 :: below }]
def below0 : List Frame := [.native { method := ⟨0, 0⟩, args := #[] }]
def about1 : State := aboutOver below0
def p0 : Program := .bare "" "" ""
def e0 : Env := launch0.env 0 0 0
theorem w_frames : about1.frames = Frame.invoking theMethod args0 :: below0 := rfl
set_option maxRecDepth 65536 in
theorem w_args : argsFit about1.vm theMethod args0 = true := by decide +kernel
set_option maxRecDepth 65536 in
theorem w_heap : heapFits about1 = true := by decide +kernel
set_option maxRecDepth 65536 in
theorem w_runnable : about1.curStatus? = some .runnable := by decide +kernel
set_option maxRecDepth 65536 in
theorem w_alone : about1.alone = true := by decide +kernel
set_option maxRecDepth 65536 in
theorem w_named : about1.methodNamed? x = some theMethod := by decide +kernel
set_option maxRecDepth 65536 in
theorem w_hears : about1.hears theMethod below0 = true := by decide +kernel
set_option maxRecDepth 65536 in
theorem w_ripe : about1.ripe theMethod args0 below0 = true := by decide +kernel
theorem w_running : about1.status = .running := rfl
set_option maxRecDepth 65536 in
theorem w_room : about1.hasRoom e0.platform room_1 = true :=
  launch0.hasRoom_least _ room_1 (by decide +kernel) (by decide +kernel) (by decide +kernel) (by decide +kernel) (by decide +kernel) (by decide +kernel)
theorem allAtoms_all (ts : List Jvm.Cond) (a : Array Jvm.Value) (st : Jvm.State) : (allAtoms ts).before a st = ts.all (fun c => c.before a st) := by
  induction ts with
  | nil => rfl
  | cons c t ih =>
    show (Jvm.Cond.and c (allAtoms t)).before a st = _
    rw [Jvm.Cond.before_and, ih, List.all_cons]
def words1 : List Jvm.Cond := Jvm.Cond.code x code maxLocals ret :: tables_1
/-- a 'code' word, met by the world's own term for the bytes: nothing is compared byte by byte -/
theorem code_word {y : MethodName} {bytes : ByteArray} {mx : Nat} {rt : Option FieldType} {a : Array Value} {s : State} {m : MethodId} {meth : Method} {c : Code} (h1 : s.methodNamed? y = some m) (h2 : s.vm.method? m = some meth) (h3 : meth.code = some c) (h4 : c.code = bytes)
    (h5 : (c.maxLocals == mx && c.exceptionTable.isEmpty && decide (c.maxStack ≤ mostOperands) && decide (meth.sig.returnType = rt) && !meth.locks && decide (parseMethodDescriptor y.desc = some meth.sig)) = true) : (Jvm.Cond.code y bytes mx rt).before a s = true := by
  simp only [Bool.and_eq_true, beq_iff_eq, Bool.not_eq_true', decide_eq_true_eq] at h5
  obtain ⟨⟨⟨⟨⟨g1, g2⟩, g3⟩, g4⟩, g5⟩, g6⟩ := h5
  simp [Cond.before, Cond.holds, Cond.value, h1, h2, h3, h4, g1, g2, g3, g4, g5, g6]
def isCode : Jvm.Cond → Bool
  | .code _ _ _ _ => true
  | _ => false
theorem all_split {L : List Jvm.Cond} {P : Jvm.Cond → Bool} (h1 : L.all (fun c => isCode c || P c) = true) (h2 : ∀ c ∈ L.filter isCode, P c = true) : L.all P = true := by
  refine List.all_eq_true.mpr fun c hc => ?_
  have h := List.all_eq_true.mp h1 c hc
  rcases Bool.eq_false_or_eq_true (isCode c) with hi | hi
  · exact h2 c (List.mem_filter.mpr ⟨hc, hi⟩)
  · simpa [hi] using h
set_option maxRecDepth 65536 in
theorem w_c0 : (Jvm.Cond.code x code maxLocals ret).before args0 about1 = true := code_word (m := ⟨1, 2⟩) (meth := k1m2) (c := k1c2) (by decide +kernel) rfl rfl rfl (by decide +kernel)
set_option maxRecDepth 65536 in
theorem w_c1 : (Jvm.Cond.code ({ cls := "com/example/tomekeeper/tomekeeper/json/Utf8ByteCountPinLaw", name := "beyond", desc := "(II)I" } : Jvm.MethodName) method_2_code (2 : Nat) (Option.some Jvm.ClassFile.FieldType.int)).before args0 about1 = true := code_word (m := ⟨1, 1⟩) (meth := k1m1) (c := k1c1) (by decide +kernel) rfl rfl rfl (by decide +kernel)
set_option maxRecDepth 65536 in
theorem w_c2 : (Jvm.Cond.code ({ cls := "com/example/tomekeeper/tomekeeper/json/Utf8", name := "byteCount", desc := "(I)I" } : Jvm.MethodName) prog_71_method_3_code (2 : Nat) (Option.some Jvm.ClassFile.FieldType.int)).before args0 about1 = true := code_word (m := ⟨2, 1⟩) (meth := k2m1) (c := k2c1) (by decide +kernel) rfl rfl rfl (by decide +kernel)
def codes1 : List Jvm.Cond := [Jvm.Cond.code x code maxLocals ret, Jvm.Cond.code ({ cls := "com/example/tomekeeper/tomekeeper/json/Utf8ByteCountPinLaw", name := "beyond", desc := "(II)I" } : Jvm.MethodName) method_2_code (2 : Nat) (Option.some Jvm.ClassFile.FieldType.int), Jvm.Cond.code ({ cls := "com/example/tomekeeper/tomekeeper/json/Utf8", name := "byteCount", desc := "(I)I" } : Jvm.MethodName) prog_71_method_3_code (2 : Nat) (Option.some Jvm.ClassFile.FieldType.int)]
set_option maxRecDepth 65536 in
theorem codes_eq : words1.filter isCode = codes1 := rfl
theorem w_codes : ∀ c ∈ words1.filter isCode, c.before args0 about1 = true := by
  rw [codes_eq]
  intro c hc
  simp only [codes1, List.mem_cons, List.not_mem_nil, or_false] at hc
  rcases hc with rfl | rfl | rfl
  · exact w_c0
  · exact w_c1
  · exact w_c2
set_option maxRecDepth 65536 in
theorem w_t1 : words1.all (fun c => isCode c || c.before args0 about1) = true := by decide +kernel
theorem w_tables : (allAtoms (Jvm.Cond.code x code maxLocals ret :: tables_1)).before args0 about1 = true := by
  rw [allAtoms_all]
  show words1.all (fun c => c.before args0 about1) = true
  refine all_split ?_ w_codes
  rw [w_t1]
set_option maxRecDepth 65536 in
theorem w_case : (Jvm.Cond.and given_1 narrow_1).before args0 about1 = true := by decide +kernel
theorem w_applies : (headSpec (Jvm.Cond.code x code maxLocals ret :: tables_1) room_1).applies x e0.platform about1 = true :=
  (Spec.applies_iff w_frames).mpr ⟨w_running, w_runnable, w_alone, w_named, w_hears, w_ripe, w_room, w_tables⟩
theorem atStart : AtStart classFile x code maxLocals ret World_1 tables_1 room_1 Calls_1 rest_1 Pre_1 launch0 p0 e0 about1 theMethod args0 below0 :=
  ⟨lists_1, trivial, launch0.admits_env _ _ _, launch0.least_env, fairChoices_fair.cas, fairChoices_fair.clock, w_frames, w_args, w_heap, w_applies, trivial, trivial, w_case⟩
end start1
theorem witness_1 : WitnessClaimed_1 := ⟨start1.p0, start1.e0, start1.about1, start1.theMethod, start1.args0, start1.below0, start1.atStart⟩
end Jvm.Pilot.@@N@@
