import JvmDerived
import JvmDerived.Pilot.@@N@@Statement
import JvmDerived.Pilot.@@N@@Code
set_option linter.unusedVariables false
set_option linter.unusedSimpArgs false
set_option maxHeartbeats 40000000
namespace Jvm.RoadKit
open Sem ClassFile Op Lib Jvm.Stand Jvm.Free Jvm.LawKit
section New
variable {p : Program} {l : Launch} {e : Env} {R : Room} {s : State} {m : MethodId} {args : Array Value} {below : List Frame} {meth : Method} {c : Code} {T : State} {locs : List Loc} {cells slots : Nat}
theorem retI (X : Stand p l e R s m args below meth c T locs cells slots) (hx : p.tables.exec = Jvm.exec) {pc : Nat} {Ls : Array Slot} {z : Int32} {rest : List Value} (hret : meth.sig.returnType = some .int) (hd : decode c.code pc = .ok (.ireturn, 1)) {fs : List Frame}
    (hl : ∀ (f : JFrame) (acts : List Action), f.method = m → f.locked = none → f.entered = [] → (doReturn e (T.setTop f) acts (some (.int z))).1 = T.setFrames fs) : Steps p.tables e below (T.setTop (mkF m pc Ls (.int z :: rest))) (T.setFrames fs) := by
  have hm' : T.vm.method? m = some meth := X.method'
  have hn : narrow .int (.int z) = .int z := rfl
  show Steps p.tables e below (T.setTop { method := m, pc := pc, locals := Ls, stack := _ :: rest, locked := none }) _
  jvm_step X.here [X.here.top, hx, hd, hm', hret, hn]
  first | (intro acts; rw [hl _ acts rfl rfl rfl]) | rw [hl _ _ rfl rfl rfl]
  exact Steps.refl _
end New
end Jvm.RoadKit
namespace Jvm.Pilot.@@N@@
open Jvm Jvm.ClassFile Sem Op Lib Jvm.Free Jvm.Stand Jvm.LawKit Jvm.RoadKit Bundle Jvm.Pilot.@@N@@.Jvm.D
/-! a run that ends well: what this text is made of -/
def own_Run (p : Program) (e : Env) (below : List Frame) (Φ : State → Prop) (S : State) : Prop := ∃ t, Steps p.tables e below S t ∧ Φ t
def own_Fin (s : State) (below : List Frame) (C D : Nat) (Q : Option Value → Heap → List Loc → Prop) (t : State) : Prop :=
  t.status = .running ∧ ∃ v L, Ended t below (.returned v) ∧ Q v t.heap L ∧ FrameEnd s (.returned v) t L C D
def own_Met (l : Launch) (Z : State) (y : MethodName) (bytes : ByteArray) (maxL : Nat) (ret : Option FieldType) (rm : Room) (as : Array Value) (h : Heap) (Q : Option Value → Heap → List Loc → Prop) : Prop :=
  ∀ ws : List Jvm.Cond, MetFree l y (head1 (Jvm.Cond.code y bytes maxL ret :: ws) rm) (fun a U => a = as ∧ Z.Warmed39 U.vm ∧ U.heap = h) (fun _ _ _ _ _ => True) (fun _ U o U' => ∃ v L, o = .returned v ∧ Q v U'.heap L ∧ FrameEnd U o U' L rm.cells rm.slots)
section OwnRun
variable {p : Program} {l : Launch} {e : Env} {R : Room} {s : State} {m : MethodId} {args : Array Value} {below : List Frame} {meth : Method} {c : Code} {T : State} {locs : List Loc} {cells slots : Nat} {Φ : State → Prop} {S S' : State} {Z : State} {a0 : Array Value} {h : Heap}
theorem own_go (st : ∀ t, Steps p.tables e below S' t → Steps p.tables e below S t) (r : own_Run p e below Φ S') : own_Run p e below Φ S := r.elim fun t q => ⟨t, st t q.1, q.2⟩
theorem own_via (st : Steps p.tables e below S S') (r : own_Run p e below Φ S') : own_Run p e below Φ S := r.elim fun t q => ⟨t, st.trans q.1, q.2⟩
theorem own_cast {g g' : JFrame} (q : g = g') (r : own_Run p e below Φ (T.setTop g')) : own_Run p e below Φ (T.setTop g) := q ▸ r
theorem own_body {C D : Nat} {Q : Option Value → Heap → List Loc → Prop} (r : own_Run p e below (own_Fin s below C D Q) S) :
    ∃ s₂ o, Steps p.tables e below S s₂ ∧ s₂.status = .running ∧ Ended s₂ below o ∧ ∃ v L, o = .returned v ∧ Q v s₂.heap L ∧ FrameEnd s o s₂ L C D := by
  obtain ⟨t, q1, q2, v, L, q3, q4, q5⟩ := r
  exact ⟨t, _, q1, q2, q3, v, L, rfl, q4, q5⟩
variable {C D : Nat} {Q : Option Value → Heap → List Loc → Prop}
theorem own_retI (X : Stand p l e R s m args below meth c T locs cells slots) (hx : p.tables.exec = Jvm.exec) (hret : meth.sig.returnType = some .int) (hlk : meth.locks = false) {pc : Nat} {Ls : Array Slot} {z : Int32} {rest : List Value} (hd : decode c.code pc = .ok (.ireturn, 1)) (eT : T.heap = h) (hq : Q (some (.int z)) h locs) (hc : cells ≤ C) (hs : slots ≤ D) :
    own_Run p e below (own_Fin s below C D Q) (T.setTop (mkF m pc Ls (.int z :: rest))) := by
  obtain ⟨fs, hr, hrun, hended, hW, hsame⟩ := X.leave (v := some (.int z)) (fun q => by rw [hret] at q; cases q) hlk
  exact ⟨_, retI X hx hret hd hr, hrun, _, _, hended, by show Q _ T.heap _; rw [eT]; exact hq, ⟨_, rfl⟩, hW, hsame.mono hc hs⟩
theorem own_retN (X : Stand p l e R s m args below meth c T locs cells slots) (hx : p.tables.exec = Jvm.exec) {t : FieldType} (hret : meth.sig.returnType = some t) (ht : t = .boolean ∨ t = .byte ∨ t = .char ∨ t = .short) (hlk : meth.locks = false) {pc : Nat} {Ls : Array Slot} {z : Int32} {rest : List Value} (hd : decode c.code pc = .ok (.ireturn, 1)) (eT : T.heap = h) (hq : Q (some (.int (nar t z))) h locs) (hc : cells ≤ C) (hs : slots ≤ D) :
    own_Run p e below (own_Fin s below C D Q) (T.setTop (mkF m pc Ls (.int z :: rest))) := by
  obtain ⟨fs, hr, hrun, hended, hW, hsame⟩ := X.leave (v := some (.int (nar t z))) (fun q => by rw [hret] at q; cases q) hlk
  exact ⟨_, retN X hx hret ht hd hr, hrun, _, _, hended, by show Q _ T.heap _; rw [eT]; exact hq, ⟨_, rfl⟩, hW, hsame.mono hc hs⟩
theorem own_retV (X : Stand p l e R s m args below meth c T locs cells slots) (hx : p.tables.exec = Jvm.exec) (hret : meth.sig.returnType = none) (hlk : meth.locks = false) {pc : Nat} {Ls : Array Slot} (hd : decode c.code pc = .ok (.return_, 1)) (eT : T.heap = h) (hq : Q none h locs) (hc : cells ≤ C) (hs : slots ≤ D) :
    own_Run p e below (own_Fin s below C D Q) (T.setTop (mkF m pc Ls [])) := by
  obtain ⟨fs, hr, hrun, hended, hW, hsame⟩ := X.leave (v := none) (fun _ => rfl) hlk
  exact ⟨_, X.returnOut hx hret hd hr, hrun, _, _, hended, by show Q _ T.heap _; rw [eT]; exact hq, ⟨_, rfl⟩, hW, hsame.mono hc hs⟩
theorem own_retO (X : Stand p l e R s m args below meth c T locs cells slots) (hx : p.tables.exec = Jvm.exec) {t : FieldType} {i : Instr} {w : Value} (hret : meth.sig.returnType = some t) (hn : narrow t w = w)
    (hi : (i = .ireturn ∧ (t = .int ∨ t = .boolean ∨ t = .byte ∨ t = .char ∨ t = .short) ∧ ∃ z, w = .int z) ∨ (i = .lreturn ∧ t = .long ∧ ∃ z, w = .long z) ∨ (i = .dreturn ∧ t = .double ∧ ∃ z, w = .double z) ∨ (i = .freturn ∧ t = .float ∧ ∃ z, w = .float z) ∨ (i = .areturn ∧ t.isReference = true ∧ w.isRef = true))
    (hlk : meth.locks = false) {pc : Nat} {Ls : Array Slot} {rest : List Value} (hd : decode c.code pc = .ok (i, 1)) (eT : T.heap = h) (hq : Q (some w) h locs) (hc : cells ≤ C) (hs : slots ≤ D) :
    own_Run p e below (own_Fin s below C D Q) (T.setTop (mkF m pc Ls (w :: rest))) := by
  obtain ⟨fs, hr, hrun, hended, hW, hsame⟩ := X.leave (v := some w) (fun q => by rw [hret] at q; cases q) hlk
  exact ⟨_, retOut X hx hret hn hi hd hr, hrun, _, _, hended, by show Q _ T.heap _; rw [eT]; exact hq, ⟨_, rfl⟩, hW, hsame.mono hc hs⟩
/-- who pays a call -/
def own_Bk (l : Launch) (R : Room) (p : Program) (e : Env) (below : List Frame) (s : State) (args : Array Value) (y : MethodName) (W : Nat) (as : Array Value) (h : Heap) (cc ss : Nat) (Q : Option Value → Heap → List Loc → Prop) : Prop :=
  Back l R p e below s args y 3 W (fun A a => a = as ∧ A.U.heap = h ∧ A.cells + cc ≤ R.cells ∧ A.slots + ss ≤ R.slots) (fun A _ v B => ∃ L, Q v B.U.heap L ∧ B.locs = A.locs ++ L ∧ B.cells = A.cells + cc ∧ B.slots = A.slots + ss)
theorem own_bk {y : MethodName} {bytes : ByteArray} {maxL : Nat} {ret : Option FieldType} {rm : Room} {W : Nat} {as : Array Value} (hM : own_Met l Z y bytes maxL ret rm as h Q) (hZ : Z.Warmed39 s.vm) (wc : (Jvm.Cond.code y bytes maxL ret).before a0 Z = true) (wz : (Jvm.Cond.initialized y.cls).before a0 Z = true) (hf : rm.frames + 1 ≤ R.frames) (hl : W + (maxL + 11) + rm.locals ≤ R.locals) :
    own_Bk l R p e below s args y W as h rm.cells rm.slots Q := backOf (W := W) (hM []) hZ wc wz hf hl
/-- a static method by its contract -/
theorem own_callS (X : Stand p l e R s m args below meth c T locs cells slots) (hx : p.tables.exec = Jvm.exec) (hZ : Z.Warmed39 s.vm) {own : String} {index : Nat} {y : MethodName} {bytes : ByteArray} {maxL : Nat} {ret : Option FieldType} {cc ss : Nat}
    (hown : s.vm.findClass own = some m.cls) (w1 : (Jvm.Cond.methodLink own index y).before a0 Z = true) (w2 : (Jvm.Cond.static y).before a0 Z = true) (w3 : (Jvm.Cond.initialized y.cls).before a0 Z = true) (w4 : (Jvm.Cond.code y bytes maxL ret).before a0 Z = true)
    (hy : y.cls ≠ "java/lang/invoke/MethodHandle" ∧ y.cls ≠ "java/lang/invoke/VarHandle") {W : Nat} {argsL rest : List Value} (hK : own_Bk l R p e below s args y W argsL.toArray h cc ss Q) (eT : T.heap = h)
    {g : JFrame} (hg : g.method = m) (hsize : g.locals.size = c.maxLocals) (hlen : ∀ sig, parseMethodDescriptor y.desc = some sig → argsL.length = sig.parameters.length)
    (hstack : g.stack = argsL.reverse ++ rest) (hW : 2 * g.monitorRoom + (rest.map fun v => v.category).sum ≤ W) (hdg : decode c.code g.pc = .ok (.invokestatic index, 3))
    (hcl : cells + cc ≤ R.cells) (hsl : slots + ss ≤ R.slots)
    (k : ∀ v T' h' L, Stand p l e R s m args below meth c T' (locs ++ L) (cells + cc) (slots + ss) → T'.heap = h' → Q v h' L → own_Run p e below Φ (T'.setTop { g with pc := g.pc + 3, stack := v.toList ++ rest })) : own_Run p e below Φ (T.setTop g) := by
  obtain ⟨v, _, ⟨T', L', k', n'⟩, -, X', ⟨Lc, hQ, l1, y1, z1⟩, st⟩ := Jvm.LawKit.callS X hx (y := y) hown (mvT hZ w1) (mvT hZ w2) (mvT hZ w3) (mvT hZ w4) hy hK hg hsize hlen hstack hW hdg (fun _ _ => ⟨rfl, eT, hcl, hsl⟩)
  dsimp only [Pt.U, Pt.locs, Pt.cells, Pt.slots] at X' l1 y1 z1 st hQ
  subst l1 y1 z1
  exact own_go st (k v T' _ Lc X' rfl hQ)
/-- a constructor by its contract -/
theorem own_callI (X : Stand p l e R s m args below meth c T locs cells slots) (hx : p.tables.exec = Jvm.exec) (hZ : Z.Warmed39 s.vm) {own : String} {index : Nat} {y : MethodName} {bytes : ByteArray} {maxL : Nat} {cc ss : Nat} (hy1 : y.name = "<init>")
    (hown : s.vm.findClass own = some m.cls) (w1 : (Jvm.Cond.methodLink own index y).before a0 Z = true) (w2 : (Jvm.Cond.instanceMethod y).before a0 Z = true) (w4 : (Jvm.Cond.code y bytes maxL none).before a0 Z = true)
    (hy : y.cls ≠ "java/lang/invoke/MethodHandle" ∧ y.cls ≠ "java/lang/invoke/VarHandle") {W : Nat} {a : Addr} {argsL rest : List Value} (hK : own_Bk l R p e below s args y W (.ref a :: argsL).toArray h cc ss Q) (eT : T.heap = h)
    {g : JFrame} (hg : g.method = m) (hsize : g.locals.size = c.maxLocals) (hlen : ∀ sig, parseMethodDescriptor y.desc = some sig → argsL.length = sig.parameters.length)
    (hstack : g.stack = argsL.reverse ++ .ref a :: rest) (hW : 2 * g.monitorRoom + (rest.map fun v => v.category).sum ≤ W) (hdg : decode c.code g.pc = .ok (.invokespecial index, 3))
    (hcl : cells + cc ≤ R.cells) (hsl : slots + ss ≤ R.slots)
    (k : ∀ v T' h' L, Stand p l e R s m args below meth c T' (locs ++ L) (cells + cc) (slots + ss) → T'.heap = h' → Q v h' L → own_Run p e below Φ (T'.setTop { g with pc := g.pc + 3, stack := v.toList ++ rest })) : own_Run p e below Φ (T.setTop g) := by
  obtain ⟨v, _, ⟨T', L', k', n'⟩, -, X', ⟨Lc, hQ, l1, y1, z1⟩, st⟩ := X.specialBack hx (y := y) hy1 hown (mvT hZ w1) (mvT hZ w2) (mvT hZ w4) hy hK hg hsize (Steps.refl _) (a := a) hlen hstack hW hdg (fun _ _ => ⟨rfl, eT, hcl, hsl⟩)
  dsimp only [Pt.U, Pt.locs, Pt.cells, Pt.slots] at X' l1 y1 z1 st hQ
  subst l1 y1 z1
  exact own_via st (k v T' _ Lc X' rfl hQ)
/-- an instance method by the contract of the body that the receiver's class selects -/
theorem own_callV (X : Stand p l e R s m args below meth c T locs cells slots) (hx : p.tables.exec = Jvm.exec) (hZ : Z.Warmed39 s.vm) {own C : String} {index : Nat} {y z : MethodName} {cc ss : Nat}
    (hown : s.vm.findClass own = some m.cls) (w1 : (Jvm.Cond.methodLink own index y).before a0 Z = true) (w2 : (Jvm.Cond.declares y).before a0 Z = true) (hnf : NotFace s y) (w3 : (Jvm.Cond.selects C y z).before a0 Z = true) (w4 : (Jvm.Cond.instanceMethod z).before a0 Z = true)
    (hy : y.cls ≠ "java/lang/invoke/MethodHandle" ∧ y.cls ≠ "java/lang/invoke/VarHandle") {W : Nat} {a : Addr} {argsL rest : List Value} (hK : own_Bk l R p e below s args z W (.ref a :: argsL).toArray h cc ss Q) (eT : T.heap = h) (E : Exa Z h a C)
    {g : JFrame} (hg : g.method = m) (hsize : g.locals.size = c.maxLocals) (hlen : ∀ sig, parseMethodDescriptor y.desc = some sig → argsL.length = sig.parameters.length)
    (hstack : g.stack = argsL.reverse ++ .ref a :: rest) (hW : 2 * g.monitorRoom + (rest.map fun v => v.category).sum ≤ W) (hdg : decode c.code g.pc = .ok (.invokevirtual index, 3))
    (hcl : cells + cc ≤ R.cells) (hsl : slots + ss ≤ R.slots)
    (k : ∀ v T' h' L, Stand p l e R s m args below meth c T' (locs ++ L) (cells + cc) (slots + ss) → T'.heap = h' → Q v h' L → own_Run p e below Φ (T'.setTop { g with pc := g.pc + 3, stack := v.toList ++ rest })) : own_Run p e below Φ (T.setTop g) := by
  obtain ⟨cq, kq, qa, qb, qc⟩ := isOf hZ eT E
  obtain ⟨v, _, ⟨T', L', k', n'⟩, -, X', ⟨Lc, hQ, l1, y1, z1⟩, st⟩ := X.virtualBack hx (y := y) (z := z) hown (mvT hZ w1) (mvT hZ w2) hnf (mvT hZ w3) (mvT hZ w4) hy hK qa qc hg hsize (Steps.refl _) hlen hstack hW hdg (fun _ _ => ⟨rfl, eT, hcl, hsl⟩)
  dsimp only [Pt.U, Pt.locs, Pt.cells, Pt.slots] at X' l1 y1 z1 st hQ
  subst l1 y1 z1
  exact own_via st (k v T' _ Lc X' rfl hQ)
/-- an instance method that a superclass declares -/
theorem own_callU (X : Stand p l e R s m args below meth c T locs cells slots) (hx : p.tables.exec = Jvm.exec) (hZ : Z.Warmed39 s.vm) {own C owner : String} {index : Nat} {y z : MethodName} {cc ss : Nat}
    (hown : s.vm.findClass own = some m.cls) (w1 : (Jvm.Cond.methodLink own index y).before a0 Z = true) (w0 : (Jvm.Cond.sameMethod y.cls owner y.name y.desc).before a0 Z = true) (w2 : (Jvm.Cond.declares ⟨owner, y.name, y.desc⟩).before a0 Z = true) (w3 : (Jvm.Cond.selects C y z).before a0 Z = true) (w4 : (Jvm.Cond.instanceMethod z).before a0 Z = true)
    (hy : owner ≠ "java/lang/invoke/MethodHandle" ∧ owner ≠ "java/lang/invoke/VarHandle") {W : Nat} {a : Addr} {argsL rest : List Value} (hK : own_Bk l R p e below s args z W (.ref a :: argsL).toArray h cc ss Q) (eT : T.heap = h) (E : Exa Z h a C)
    {g : JFrame} (hg : g.method = m) (hsize : g.locals.size = c.maxLocals) (hlen : ∀ sig, parseMethodDescriptor y.desc = some sig → argsL.length = sig.parameters.length)
    (hstack : g.stack = argsL.reverse ++ .ref a :: rest) (hW : 2 * g.monitorRoom + (rest.map fun v => v.category).sum ≤ W) (hdg : decode c.code g.pc = .ok (.invokevirtual index, 3))
    (hcl : cells + cc ≤ R.cells) (hsl : slots + ss ≤ R.slots)
    (k : ∀ v T' h' L, Stand p l e R s m args below meth c T' (locs ++ L) (cells + cc) (slots + ss) → T'.heap = h' → Q v h' L → own_Run p e below Φ (T'.setTop { g with pc := g.pc + 3, stack := v.toList ++ rest })) : own_Run p e below Φ (T.setTop g) := by
  obtain ⟨cq, kq, qa, qb, qc⟩ := isOf hZ eT E
  obtain ⟨v, _, ⟨T', L', k', n'⟩, -, X', ⟨Lc, hQ, l1, y1, z1⟩, st⟩ := X.virtualBackUp hx (x := y) (y := z) hown (mvT hZ w1) (mvT hZ w0) (mvT hZ w2) hy (mvT hZ w3) (mvT hZ w4) hK qa qc hg hsize (Steps.refl _) hlen hstack hW hdg (fun _ _ => ⟨rfl, eT, hcl, hsl⟩)
  dsimp only [Pt.U, Pt.locs, Pt.cells, Pt.slots] at X' l1 y1 z1 st hQ
  subst l1 y1 z1
  exact own_via st (k v T' _ Lc X' rfl hQ)
/-- a private method by its contract -/
theorem own_callP (X : Stand p l e R s m args below meth c T locs cells slots) (hx : p.tables.exec = Jvm.exec) (hZ : Z.Warmed39 s.vm) {own C : String} {index : Nat} {y : MethodName} {bytes : ByteArray} {maxL : Nat} {ret : Option FieldType} {cc ss : Nat}
    (hown : s.vm.findClass own = some m.cls) (w1 : (Jvm.Cond.methodLink own index y).before a0 Z = true) (w2 : (Jvm.Cond.instanceMethod y).before a0 Z = true) (w3 : (Jvm.Cond.selects y.cls y y).before a0 Z = true) (w4 : (Jvm.Cond.privateMethod y).before a0 Z = true) (w6 : (Jvm.Cond.code y bytes maxL ret).before a0 Z = true)
    (hy : y.cls ≠ "java/lang/invoke/MethodHandle" ∧ y.cls ≠ "java/lang/invoke/VarHandle") {W : Nat} {a : Addr} {argsL rest : List Value} (hK : own_Bk l R p e below s args y W (.ref a :: argsL).toArray h cc ss Q) (eT : T.heap = h) (E : Exa Z h a C)
    {g : JFrame} (hg : g.method = m) (hsize : g.locals.size = c.maxLocals) (hlen : ∀ sig, parseMethodDescriptor y.desc = some sig → argsL.length = sig.parameters.length)
    (hstack : g.stack = argsL.reverse ++ .ref a :: rest) (hW : 2 * g.monitorRoom + (rest.map fun v => v.category).sum ≤ W) (hdg : decode c.code g.pc = .ok (.invokevirtual index, 3))
    (hcl : cells + cc ≤ R.cells) (hsl : slots + ss ≤ R.slots)
    (k : ∀ v T' h' L, Stand p l e R s m args below meth c T' (locs ++ L) (cells + cc) (slots + ss) → T'.heap = h' → Q v h' L → own_Run p e below Φ (T'.setTop { g with pc := g.pc + 3, stack := v.toList ++ rest })) : own_Run p e below Φ (T.setTop g) := by
  obtain ⟨cq, q1, q2⟩ := E.cell
  obtain ⟨v, _, ⟨T', L', k', n'⟩, -, X', ⟨Lc, hQ, l1, y1, z1⟩, st⟩ := X.privateBack hx (y := y) hown (mvT hZ w1) (mvT hZ w2) (mvT hZ w3) (Cond.privateMethod_at (mvP hZ w4 (args := #[]))) (mvT hZ w6) hy hK hg hsize (Steps.refl _) (a := a) (by rw [eT]; exact q1) q2 hlen hstack hW hdg (fun _ _ => ⟨rfl, eT, hcl, hsl⟩)
  dsimp only [Pt.U, Pt.locs, Pt.cells, Pt.slots] at X' l1 y1 z1 st hQ
  subst l1 y1 z1
  exact own_via st (k v T' _ Lc X' rfl hQ)
/-- arrays: reading -/
theorem own_iaload (X : Stand p l e R s m args below meth c T locs cells slots) (hx : p.tables.exec = Jvm.exec) (hZ : Z.Warmed39 s.vm) (eT : T.heap = h) {a : Addr} {k : ClassId} {z j : Int32} {vs : List Value} {dv v : Value} (V : Arv Z h a k .int z vs dv) (hj : ¬ j < 0 ∧ j < z) (hv : vs.getD j.toNatClampNeg dv = v)
    {g : JFrame} (hg : g.method = m) {rest : List Value} (hs : g.stack = .int j :: .ref a :: rest) (hd : decode c.code g.pc = .ok (.iaload, 1)) (r : own_Run p e below Φ (T.setTop { g with pc := g.pc + 1, stack := v :: rest })) : own_Run p e below Φ (T.setTop g) := by
  obtain ⟨cl, A, -, S, -, H, -⟩ := V
  exact own_go (fun t q => X.iaload hx (j := j) (v := v) (by rw [eT]; exact A.1) (State.isArrayOf_alike hZ.alike A.2.1) A.2.2 (inb_of S hj) (Has.at H (inb_of S hj) hv) hg hs hd t q) r
theorem own_laload (X : Stand p l e R s m args below meth c T locs cells slots) (hx : p.tables.exec = Jvm.exec) (hZ : Z.Warmed39 s.vm) (eT : T.heap = h) {a : Addr} {k : ClassId} {z j : Int32} {vs : List Value} {dv v : Value} (V : Arv Z h a k .long z vs dv) (hj : ¬ j < 0 ∧ j < z) (hv : vs.getD j.toNatClampNeg dv = v)
    {g : JFrame} (hg : g.method = m) {rest : List Value} (hs : g.stack = .int j :: .ref a :: rest) (hd : decode c.code g.pc = .ok (.laload, 1)) (r : own_Run p e below Φ (T.setTop { g with pc := g.pc + 1, stack := v :: rest })) : own_Run p e below Φ (T.setTop g) := by
  obtain ⟨cl, A, -, S, -, H, -⟩ := V
  exact own_go (fun t q => X.laload hx (j := j) (v := v) (by rw [eT]; exact A.1) (State.isArrayOf_alike hZ.alike A.2.1) A.2.2 (inb_of S hj) (Has.at H (inb_of S hj) hv) hg hs hd t q) r
theorem own_caload (X : Stand p l e R s m args below meth c T locs cells slots) (hx : p.tables.exec = Jvm.exec) (hZ : Z.Warmed39 s.vm) (eT : T.heap = h) {a : Addr} {k : ClassId} {z j : Int32} {vs : List Value} {dv v : Value} (V : Arv Z h a k .char z vs dv) (hj : ¬ j < 0 ∧ j < z) (hv : vs.getD j.toNatClampNeg dv = v)
    {g : JFrame} (hg : g.method = m) {rest : List Value} (hs : g.stack = .int j :: .ref a :: rest) (hd : decode c.code g.pc = .ok (.caload, 1)) (r : own_Run p e below Φ (T.setTop { g with pc := g.pc + 1, stack := v :: rest })) : own_Run p e below Φ (T.setTop g) := by
  obtain ⟨cl, A, -, S, -, H, -⟩ := V
  exact own_go (fun t q => X.caload hx (j := j) (v := v) (by rw [eT]; exact A.1) (State.isArrayOf_alike hZ.alike A.2.1) A.2.2 (inb_of S hj) (Has.at H (inb_of S hj) hv) hg hs hd t q) r
theorem own_baload (X : Stand p l e R s m args below meth c T locs cells slots) (hx : p.tables.exec = Jvm.exec) (hZ : Z.Warmed39 s.vm) (eT : T.heap = h) {a : Addr} {k : ClassId} {z j : Int32} {vs : List Value} {dv v : Value} (V : Arv Z h a k .byte z vs dv) (hj : ¬ j < 0 ∧ j < z) (hv : vs.getD j.toNatClampNeg dv = v)
    {g : JFrame} (hg : g.method = m) {rest : List Value} (hs : g.stack = .int j :: .ref a :: rest) (hd : decode c.code g.pc = .ok (.baload, 1)) (r : own_Run p e below Φ (T.setTop { g with pc := g.pc + 1, stack := v :: rest })) : own_Run p e below Φ (T.setTop g) := by
  obtain ⟨cl, A, -, S, -, H, -⟩ := V
  exact own_go (fun t q => X.baloadBytes hx (j := j) (v := v) (by rw [eT]; exact A.1) (State.isArrayOf_alike hZ.alike A.2.1) A.2.2 (inb_of S hj) (Has.at H (inb_of S hj) hv) hg hs hd t q) r
theorem own_arrlen (X : Stand p l e R s m args below meth c T locs cells slots) (hx : p.tables.exec = Jvm.exec) (hZ : Z.Warmed39 s.vm) (eT : T.heap = h) {a : Addr} {k : ClassId} {ty : FieldType} {z : Int32} {vs : List Value} {dv : Value} (V : Arv Z h a k ty z vs dv)
    {g : JFrame} (hg : g.method = m) {rest : List Value} (hs : g.stack = .ref a :: rest) (hd : decode c.code g.pc = .ok (.arraylength, 1)) (r : own_Run p e below Φ (T.setTop { g with pc := g.pc + 1, stack := .int z :: rest })) : own_Run p e below Φ (T.setTop g) := by
  obtain ⟨cl, A, -, S, M, -, -⟩ := V
  refine own_go (fun t q => X.arraylength hx (by rw [eT]; exact A.1) (State.isArrayOf_alike hZ.alike A.2.1) hg hs hd t q) ?_
  rw [len_of S M]; exact r
/-- arrays: writing -/
theorem own_iastore (X : Stand p l e R s m args below meth c T locs cells slots) (hx : p.tables.exec = Jvm.exec) (hZ : Z.Warmed39 s.vm) (eT : T.heap = h) {a : Addr} {k : ClassId} {z j x : Int32} {vs : List Value} {dv : Value} (V : Arv Z h a k .int z vs dv) (hj : ¬ j < 0 ∧ j < z) (i : Nat) (hi : j.toNatClampNeg = i) (hl : i < vs.length)
    {g : JFrame} (hg : g.method = m) {rest : List Value} (hs : g.stack = .int x :: .int j :: .ref a :: rest) (hd : decode c.code g.pc = .ok (.iastore, 1))
    (r : ∀ T' h', Stand p l e R s m args below meth c T' (locs ++ [⟨a, j.toNatClampNeg⟩]) cells slots → T'.heap = h' → Wr h h' a j.toNatClampNeg (.int x) → Arv Z h' a k .int z (vs.set i (.int x)) dv → own_Run p e below Φ (T'.setTop { g with pc := g.pc + 1, stack := rest })) : own_Run p e below Φ (T.setTop g) := by
  obtain ⟨cl, A, q, S, N, H, G⟩ := V
  obtain ⟨T', h', X', e', W, st⟩ := stI X hx hZ eT A (j := j) (inb_of S hj) hg hs hd
  exact own_go st (r T' h' X' e' W (Arv.set A q S N H G rfl W i hi hl))
theorem own_lastore (X : Stand p l e R s m args below meth c T locs cells slots) (hx : p.tables.exec = Jvm.exec) (hZ : Z.Warmed39 s.vm) (eT : T.heap = h) {a : Addr} {k : ClassId} {z j : Int32} {x : Int64} {vs : List Value} {dv : Value} (V : Arv Z h a k .long z vs dv) (hj : ¬ j < 0 ∧ j < z) (i : Nat) (hi : j.toNatClampNeg = i) (hl : i < vs.length)
    {g : JFrame} (hg : g.method = m) {rest : List Value} (hs : g.stack = .long x :: .int j :: .ref a :: rest) (hd : decode c.code g.pc = .ok (.lastore, 1))
    (r : ∀ T' h', Stand p l e R s m args below meth c T' (locs ++ [⟨a, j.toNatClampNeg⟩]) cells slots → T'.heap = h' → Wr h h' a j.toNatClampNeg (.long x) → Arv Z h' a k .long z (vs.set i (.long x)) dv → own_Run p e below Φ (T'.setTop { g with pc := g.pc + 1, stack := rest })) : own_Run p e below Φ (T.setTop g) := by
  obtain ⟨cl, A, q, S, N, H, G⟩ := V
  obtain ⟨T', h', X', e', W, st⟩ := stJ X hx hZ eT A (j := j) (inb_of S hj) hg hs hd
  exact own_go st (r T' h' X' e' W (Arv.set A q S N H G rfl W i hi hl))
theorem own_bastore (X : Stand p l e R s m args below meth c T locs cells slots) (hx : p.tables.exec = Jvm.exec) (hZ : Z.Warmed39 s.vm) (eT : T.heap = h) {a : Addr} {k : ClassId} {z j x : Int32} {vs : List Value} {dv : Value} (V : Arv Z h a k .byte z vs dv) (hj : ¬ j < 0 ∧ j < z) (i : Nat) (hi : j.toNatClampNeg = i) (hl : i < vs.length)
    {g : JFrame} (hg : g.method = m) {rest : List Value} (hs : g.stack = .int x :: .int j :: .ref a :: rest) (hd : decode c.code g.pc = .ok (.bastore, 1))
    (r : ∀ T' h', Stand p l e R s m args below meth c T' (locs ++ [⟨a, j.toNatClampNeg⟩]) cells slots → T'.heap = h' → Wr h h' a j.toNatClampNeg (.int x.toInt8.toInt32) → Arv Z h' a k .byte z (vs.set i (.int x.toInt8.toInt32)) dv → own_Run p e below Φ (T'.setTop { g with pc := g.pc + 1, stack := rest })) : own_Run p e below Φ (T.setTop g) := by
  obtain ⟨cl, A, q, S, N, H, G⟩ := V
  obtain ⟨T', h', X', e', W, st⟩ := stB X hx hZ eT A (j := j) (inb_of S hj) hg hs hd
  exact own_go st (r T' h' X' e' W (Arv.set A q S N H G (fits_nar_byte _) W i hi hl))
theorem own_castore (X : Stand p l e R s m args below meth c T locs cells slots) (hx : p.tables.exec = Jvm.exec) (hZ : Z.Warmed39 s.vm) (eT : T.heap = h) {a : Addr} {k : ClassId} {z j x : Int32} {vs : List Value} {dv : Value} (V : Arv Z h a k .char z vs dv) (hj : ¬ j < 0 ∧ j < z) (i : Nat) (hi : j.toNatClampNeg = i) (hl : i < vs.length)
    {g : JFrame} (hg : g.method = m) {rest : List Value} (hs : g.stack = .int x :: .int j :: .ref a :: rest) (hd : decode c.code g.pc = .ok (.castore, 1))
    (r : ∀ T' h', Stand p l e R s m args below meth c T' (locs ++ [⟨a, j.toNatClampNeg⟩]) cells slots → T'.heap = h' → Wr h h' a j.toNatClampNeg (.int (nar .char x)) → Arv Z h' a k .char z (vs.set i (.int (nar .char x))) dv → own_Run p e below Φ (T'.setTop { g with pc := g.pc + 1, stack := rest })) : own_Run p e below Φ (T.setTop g) := by
  obtain ⟨cl, A, q, S, N, H, G⟩ := V
  obtain ⟨T', h', X', e', W, st⟩ := stC X hx hZ eT A (j := j) (inb_of S hj) hg hs hd
  exact own_go st (r T' h' X' e' W (Arv.set A q S N H G (fits_nar_char _) W i hi hl))
theorem own_newP (X : Stand p l e R s m args below meth c T locs cells slots) (hx : p.tables.exec = Jvm.exec) (hZ : Z.Warmed39 s.vm) {aty : ArrayType} (w : (Jvm.Cond.arrayClass (newarray.typeOf aty)).before a0 Z = true) (eT : T.heap = h) {g : JFrame} (hg : g.method = m) (hd : decode c.code g.pc = .ok (.newarray aty, 2)) {n : Int32} {rest : List Value} (hs : g.stack = .int n :: rest)
    (hn : ¬ n < 0) (cap : Nat) (hcap : n.toNatClampNeg ≤ cap) (hb : cap * 8 ≤ 536870912) (hc : cells + 1 ≤ R.cells) (hl : slots + cap ≤ R.slots) (N : Nat)
    (r : ∀ T' h' cA a, Stand p l e R s m args below meth c T' locs (cells + 1) (slots + cap) → T'.heap = h' → Ext h h' → a = h.size → Arv Z h' a cA (newarray.typeOf aty) n (List.replicate N (defaultValue (newarray.typeOf aty))) (defaultValue (newarray.typeOf aty)) → own_Run p e below Φ (T'.setTop { g with pc := g.pc + 2, stack := .ref a :: rest })) : own_Run p e below Φ (T.setTop g) := by
  obtain ⟨T', h', cA, X', e', E, A, st⟩ := newP X hx hZ w eT hg hd hs hn hcap hb hc hl
  have V := Arv.new A hn
  have q : ∀ i, (List.replicate N (defaultValue (newarray.typeOf aty))).getD i (defaultValue (newarray.typeOf aty)) = ([] : List Value).getD i (defaultValue (newarray.typeOf aty)) := pad_rep [] (defaultValue (newarray.typeOf aty)) N
  exact own_go st (r T' h' cA h.size X' e' E rfl (V.pad q))
theorem own_le {a b c d : Nat} (h1 : a ≤ b) (h2 : b + c ≤ d) : a + c ≤ d := Nat.le_trans (Nat.add_le_add_right h1 c) h2
/-- the case's words on statics -/
theorem own_eqI {args : Array Value} {first s : State} {o : Option Outcome} {idx : List Nat} {t : Term} {k : Int32} (h : (Jvm.Cond.eq t (.int k)).value args first o s idx = some true) : t.eval args first o idx s = some (.int k) := by
  cases ht : t.eval args first o idx s with
  | none => simp [Cond.value, ht] at h
  | some x => cases x <;> simp [Cond.value, Term.eval, ht] at h ⊢; exact h
theorem own_fldI {args : Array Value} {t : Term} {x : Addr} {C n d : String} {k : Int32} (ht : t.eval args Z none [] Z = some (.ref x)) (h : (Jvm.Cond.eq (.field t C n d) (.int k)).value args Z none Z [] = some true) : Fld Z Z.heap x C n d (.int k) := Fld.start ((fld_at ht).symm.trans (own_eqI h))
end OwnRun
theorem own_b8 (x : Int32) : x.toInt8.toInt32.toInt8.toInt32 = x.toInt8.toInt32 := by simp
theorem own_fin {x : Int32} {lo : Int} {k : Nat} (h1 : lo ≤ x.toInt) (h2 : x.toInt < lo + k) : ∃ i : Fin k, x = Int32.ofInt (lo + (i.1 : Int)) :=
  ⟨⟨(x.toInt - lo).toNat, by omega⟩, by rw [show lo + (((x.toInt - lo).toNat : Nat) : Int) = x.toInt by omega]; exact (Int32.ofInt_toInt x).symm⟩
def own_O (o : Int32) : Prop := o = (0 : Int32) ∨ o = (1 : Int32) ∨ o = (2 : Int32) ∨ o = (3 : Int32)
theorem own_and3 (x : Int32) : own_O (x &&& (3 : Int32)) := by
  have h := c_mask x 3 2 (by decide) (by decide)
  simp only [own_O, ← Int32.toInt_inj, Int32.reduceToInt]
  omega
theorem own_o0 {o : Int32} (h : own_O o) : ¬ o < 0 ∧ o < (8 : Int32) := by rcases h with rfl | rfl | rfl | rfl <;> decide
theorem own_o1 {o : Int32} (h : own_O o) : ¬ (o + (1 : Int32)) < 0 ∧ (o + (1 : Int32)) < (8 : Int32) := by rcases h with rfl | rfl | rfl | rfl <;> decide
theorem own_o2 {o : Int32} (h : own_O o) : ¬ (o + (2 : Int32)) < 0 ∧ (o + (2 : Int32)) < (8 : Int32) := by rcases h with rfl | rfl | rfl | rfl <;> decide
theorem own_o3 {o : Int32} (h : own_O o) : ¬ (o + (3 : Int32)) < 0 ∧ (o + (3 : Int32)) < (8 : Int32) := by rcases h with rfl | rfl | rfl | rfl <;> decide
theorem own_i0 {o : Int32} (h : own_O o) : o.toNatClampNeg < 8 := by rcases h with rfl | rfl | rfl | rfl <;> decide
theorem own_i1 {o : Int32} (h : own_O o) : (o + (1 : Int32)).toNatClampNeg < 8 := by rcases h with rfl | rfl | rfl | rfl <;> decide
theorem own_i2 {o : Int32} (h : own_O o) : (o + (2 : Int32)).toNatClampNeg < 8 := by rcases h with rfl | rfl | rfl | rfl <;> decide
theorem own_i3 {o : Int32} (h : own_O o) : (o + (3 : Int32)).toNatClampNeg < 8 := by rcases h with rfl | rfl | rfl | rfl <;> decide
def own_z (f : Int32) : List Value := [.int f, .int f, .int f, .int f, .int f, .int f, .int f, .int f]
def own_v1 (f o x0 : Int32) : List Value := (own_z f).set o.toNatClampNeg (.int x0)
def own_v2 (f o x0 x1 : Int32) : List Value := (own_v1 f o x0).set (o + (1 : Int32)).toNatClampNeg (.int x1)
def own_v3 (f o x0 x1 x2 : Int32) : List Value := (own_v2 f o x0 x1).set (o + (2 : Int32)).toNatClampNeg (.int x2)
def own_v4 (f o x0 x1 x2 x3 : Int32) : List Value := (own_v3 f o x0 x1 x2).set (o + (3 : Int32)).toNatClampNeg (.int x3)
theorem own_l0 (f : Int32) : (own_z f).length = 8 := rfl
theorem own_l1 (f o x0 : Int32) : (own_v1 f o x0).length = 8 := by rw [own_v1, List.length_set]; rfl
theorem own_l2 (f o x0 x1 : Int32) : (own_v2 f o x0 x1).length = 8 := by rw [own_v2, List.length_set]; exact own_l1 _ _ _
theorem own_l3 (f o x0 x1 x2 : Int32) : (own_v3 f o x0 x1 x2).length = 8 := by rw [own_v3, List.length_set]; exact own_l2 _ _ _ _
theorem own_g10 {f o x0 d : Int32} (h : own_O o) : (own_v1 f o x0).getD o.toNatClampNeg (.int d) = .int x0 := by rcases h with rfl | rfl | rfl | rfl <;> rfl
theorem own_g20 {f o x0 x1 d : Int32} (h : own_O o) : (own_v2 f o x0 x1).getD o.toNatClampNeg (.int d) = .int x0 := by rcases h with rfl | rfl | rfl | rfl <;> rfl
theorem own_g21 {f o x0 x1 d : Int32} (h : own_O o) : (own_v2 f o x0 x1).getD (o + (1 : Int32)).toNatClampNeg (.int d) = .int x1 := by rcases h with rfl | rfl | rfl | rfl <;> rfl
theorem own_g30 {f o x0 x1 x2 d : Int32} (h : own_O o) : (own_v3 f o x0 x1 x2).getD o.toNatClampNeg (.int d) = .int x0 := by rcases h with rfl | rfl | rfl | rfl <;> rfl
theorem own_g31 {f o x0 x1 x2 d : Int32} (h : own_O o) : (own_v3 f o x0 x1 x2).getD (o + (1 : Int32)).toNatClampNeg (.int d) = .int x1 := by rcases h with rfl | rfl | rfl | rfl <;> rfl
theorem own_g32 {f o x0 x1 x2 d : Int32} (h : own_O o) : (own_v3 f o x0 x1 x2).getD (o + (2 : Int32)).toNatClampNeg (.int d) = .int x2 := by rcases h with rfl | rfl | rfl | rfl <;> rfl
theorem own_g40 {f o x0 x1 x2 x3 d : Int32} (h : own_O o) : (own_v4 f o x0 x1 x2 x3).getD o.toNatClampNeg (.int d) = .int x0 := by rcases h with rfl | rfl | rfl | rfl <;> rfl
theorem own_g41 {f o x0 x1 x2 x3 d : Int32} (h : own_O o) : (own_v4 f o x0 x1 x2 x3).getD (o + (1 : Int32)).toNatClampNeg (.int d) = .int x1 := by rcases h with rfl | rfl | rfl | rfl <;> rfl
theorem own_g42 {f o x0 x1 x2 x3 d : Int32} (h : own_O o) : (own_v4 f o x0 x1 x2 x3).getD (o + (2 : Int32)).toNatClampNeg (.int d) = .int x2 := by rcases h with rfl | rfl | rfl | rfl <;> rfl
theorem own_g43 {f o x0 x1 x2 x3 d : Int32} (h : own_O o) : (own_v4 f o x0 x1 x2 x3).getD (o + (3 : Int32)).toNatClampNeg (.int d) = .int x3 := by rcases h with rfl | rfl | rfl | rfl <;> rfl
theorem own_k10 {f o x0 d : Int32} (h : own_O o) : ((0 : Int32) < o ∨ ¬ (0 : Int32) < o + (1 : Int32)) → (own_v1 f o x0).getD (0 : Int32).toNatClampNeg (.int d) = .int f := by rcases h with rfl | rfl | rfl | rfl <;> first | (intro _; rfl) | (intro q; exact absurd q (by decide))
theorem own_k11 {f o x0 d : Int32} (h : own_O o) : ((1 : Int32) < o ∨ ¬ (1 : Int32) < o + (1 : Int32)) → (own_v1 f o x0).getD (1 : Int32).toNatClampNeg (.int d) = .int f := by rcases h with rfl | rfl | rfl | rfl <;> first | (intro _; rfl) | (intro q; exact absurd q (by decide))
theorem own_k12 {f o x0 d : Int32} (h : own_O o) : ((2 : Int32) < o ∨ ¬ (2 : Int32) < o + (1 : Int32)) → (own_v1 f o x0).getD (2 : Int32).toNatClampNeg (.int d) = .int f := by rcases h with rfl | rfl | rfl | rfl <;> first | (intro _; rfl) | (intro q; exact absurd q (by decide))
theorem own_k13 {f o x0 d : Int32} (h : own_O o) : ((3 : Int32) < o ∨ ¬ (3 : Int32) < o + (1 : Int32)) → (own_v1 f o x0).getD (3 : Int32).toNatClampNeg (.int d) = .int f := by rcases h with rfl | rfl | rfl | rfl <;> first | (intro _; rfl) | (intro q; exact absurd q (by decide))
theorem own_k14 {f o x0 d : Int32} (h : own_O o) : ((4 : Int32) < o ∨ ¬ (4 : Int32) < o + (1 : Int32)) → (own_v1 f o x0).getD (4 : Int32).toNatClampNeg (.int d) = .int f := by rcases h with rfl | rfl | rfl | rfl <;> first | (intro _; rfl) | (intro q; exact absurd q (by decide))
theorem own_k15 {f o x0 d : Int32} (h : own_O o) : ((5 : Int32) < o ∨ ¬ (5 : Int32) < o + (1 : Int32)) → (own_v1 f o x0).getD (5 : Int32).toNatClampNeg (.int d) = .int f := by rcases h with rfl | rfl | rfl | rfl <;> first | (intro _; rfl) | (intro q; exact absurd q (by decide))
theorem own_k16 {f o x0 d : Int32} (h : own_O o) : ((6 : Int32) < o ∨ ¬ (6 : Int32) < o + (1 : Int32)) → (own_v1 f o x0).getD (6 : Int32).toNatClampNeg (.int d) = .int f := by rcases h with rfl | rfl | rfl | rfl <;> first | (intro _; rfl) | (intro q; exact absurd q (by decide))
theorem own_k17 {f o x0 d : Int32} (h : own_O o) : ((7 : Int32) < o ∨ ¬ (7 : Int32) < o + (1 : Int32)) → (own_v1 f o x0).getD (7 : Int32).toNatClampNeg (.int d) = .int f := by rcases h with rfl | rfl | rfl | rfl <;> first | (intro _; rfl) | (intro q; exact absurd q (by decide))
theorem own_k20 {f o x0 x1 d : Int32} (h : own_O o) : ((0 : Int32) < o ∨ ¬ (0 : Int32) < o + (2 : Int32)) → (own_v2 f o x0 x1).getD (0 : Int32).toNatClampNeg (.int d) = .int f := by rcases h with rfl | rfl | rfl | rfl <;> first | (intro _; rfl) | (intro q; exact absurd q (by decide))
theorem own_k21 {f o x0 x1 d : Int32} (h : own_O o) : ((1 : Int32) < o ∨ ¬ (1 : Int32) < o + (2 : Int32)) → (own_v2 f o x0 x1).getD (1 : Int32).toNatClampNeg (.int d) = .int f := by rcases h with rfl | rfl | rfl | rfl <;> first | (intro _; rfl) | (intro q; exact absurd q (by decide))
theorem own_k22 {f o x0 x1 d : Int32} (h : own_O o) : ((2 : Int32) < o ∨ ¬ (2 : Int32) < o + (2 : Int32)) → (own_v2 f o x0 x1).getD (2 : Int32).toNatClampNeg (.int d) = .int f := by rcases h with rfl | rfl | rfl | rfl <;> first | (intro _; rfl) | (intro q; exact absurd q (by decide))
theorem own_k23 {f o x0 x1 d : Int32} (h : own_O o) : ((3 : Int32) < o ∨ ¬ (3 : Int32) < o + (2 : Int32)) → (own_v2 f o x0 x1).getD (3 : Int32).toNatClampNeg (.int d) = .int f := by rcases h with rfl | rfl | rfl | rfl <;> first | (intro _; rfl) | (intro q; exact absurd q (by decide))
theorem own_k24 {f o x0 x1 d : Int32} (h : own_O o) : ((4 : Int32) < o ∨ ¬ (4 : Int32) < o + (2 : Int32)) → (own_v2 f o x0 x1).getD (4 : Int32).toNatClampNeg (.int d) = .int f := by rcases h with rfl | rfl | rfl | rfl <;> first | (intro _; rfl) | (intro q; exact absurd q (by decide))
theorem own_k25 {f o x0 x1 d : Int32} (h : own_O o) : ((5 : Int32) < o ∨ ¬ (5 : Int32) < o + (2 : Int32)) → (own_v2 f o x0 x1).getD (5 : Int32).toNatClampNeg (.int d) = .int f := by rcases h with rfl | rfl | rfl | rfl <;> first | (intro _; rfl) | (intro q; exact absurd q (by decide))
theorem own_k26 {f o x0 x1 d : Int32} (h : own_O o) : ((6 : Int32) < o ∨ ¬ (6 : Int32) < o + (2 : Int32)) → (own_v2 f o x0 x1).getD (6 : Int32).toNatClampNeg (.int d) = .int f := by rcases h with rfl | rfl | rfl | rfl <;> first | (intro _; rfl) | (intro q; exact absurd q (by decide))
theorem own_k27 {f o x0 x1 d : Int32} (h : own_O o) : ((7 : Int32) < o ∨ ¬ (7 : Int32) < o + (2 : Int32)) → (own_v2 f o x0 x1).getD (7 : Int32).toNatClampNeg (.int d) = .int f := by rcases h with rfl | rfl | rfl | rfl <;> first | (intro _; rfl) | (intro q; exact absurd q (by decide))
theorem own_k30 {f o x0 x1 x2 d : Int32} (h : own_O o) : ((0 : Int32) < o ∨ ¬ (0 : Int32) < o + (3 : Int32)) → (own_v3 f o x0 x1 x2).getD (0 : Int32).toNatClampNeg (.int d) = .int f := by rcases h with rfl | rfl | rfl | rfl <;> first | (intro _; rfl) | (intro q; exact absurd q (by decide))
theorem own_k31 {f o x0 x1 x2 d : Int32} (h : own_O o) : ((1 : Int32) < o ∨ ¬ (1 : Int32) < o + (3 : Int32)) → (own_v3 f o x0 x1 x2).getD (1 : Int32).toNatClampNeg (.int d) = .int f := by rcases h with rfl | rfl | rfl | rfl <;> first | (intro _; rfl) | (intro q; exact absurd q (by decide))
theorem own_k32 {f o x0 x1 x2 d : Int32} (h : own_O o) : ((2 : Int32) < o ∨ ¬ (2 : Int32) < o + (3 : Int32)) → (own_v3 f o x0 x1 x2).getD (2 : Int32).toNatClampNeg (.int d) = .int f := by rcases h with rfl | rfl | rfl | rfl <;> first | (intro _; rfl) | (intro q; exact absurd q (by decide))
theorem own_k33 {f o x0 x1 x2 d : Int32} (h : own_O o) : ((3 : Int32) < o ∨ ¬ (3 : Int32) < o + (3 : Int32)) → (own_v3 f o x0 x1 x2).getD (3 : Int32).toNatClampNeg (.int d) = .int f := by rcases h with rfl | rfl | rfl | rfl <;> first | (intro _; rfl) | (intro q; exact absurd q (by decide))
theorem own_k34 {f o x0 x1 x2 d : Int32} (h : own_O o) : ((4 : Int32) < o ∨ ¬ (4 : Int32) < o + (3 : Int32)) → (own_v3 f o x0 x1 x2).getD (4 : Int32).toNatClampNeg (.int d) = .int f := by rcases h with rfl | rfl | rfl | rfl <;> first | (intro _; rfl) | (intro q; exact absurd q (by decide))
theorem own_k35 {f o x0 x1 x2 d : Int32} (h : own_O o) : ((5 : Int32) < o ∨ ¬ (5 : Int32) < o + (3 : Int32)) → (own_v3 f o x0 x1 x2).getD (5 : Int32).toNatClampNeg (.int d) = .int f := by rcases h with rfl | rfl | rfl | rfl <;> first | (intro _; rfl) | (intro q; exact absurd q (by decide))
theorem own_k36 {f o x0 x1 x2 d : Int32} (h : own_O o) : ((6 : Int32) < o ∨ ¬ (6 : Int32) < o + (3 : Int32)) → (own_v3 f o x0 x1 x2).getD (6 : Int32).toNatClampNeg (.int d) = .int f := by rcases h with rfl | rfl | rfl | rfl <;> first | (intro _; rfl) | (intro q; exact absurd q (by decide))
theorem own_k37 {f o x0 x1 x2 d : Int32} (h : own_O o) : ((7 : Int32) < o ∨ ¬ (7 : Int32) < o + (3 : Int32)) → (own_v3 f o x0 x1 x2).getD (7 : Int32).toNatClampNeg (.int d) = .int f := by rcases h with rfl | rfl | rfl | rfl <;> first | (intro _; rfl) | (intro q; exact absurd q (by decide))
theorem own_k40 {f o x0 x1 x2 x3 d : Int32} (h : own_O o) : ((0 : Int32) < o ∨ ¬ (0 : Int32) < o + (4 : Int32)) → (own_v4 f o x0 x1 x2 x3).getD (0 : Int32).toNatClampNeg (.int d) = .int f := by rcases h with rfl | rfl | rfl | rfl <;> first | (intro _; rfl) | (intro q; exact absurd q (by decide))
theorem own_k41 {f o x0 x1 x2 x3 d : Int32} (h : own_O o) : ((1 : Int32) < o ∨ ¬ (1 : Int32) < o + (4 : Int32)) → (own_v4 f o x0 x1 x2 x3).getD (1 : Int32).toNatClampNeg (.int d) = .int f := by rcases h with rfl | rfl | rfl | rfl <;> first | (intro _; rfl) | (intro q; exact absurd q (by decide))
theorem own_k42 {f o x0 x1 x2 x3 d : Int32} (h : own_O o) : ((2 : Int32) < o ∨ ¬ (2 : Int32) < o + (4 : Int32)) → (own_v4 f o x0 x1 x2 x3).getD (2 : Int32).toNatClampNeg (.int d) = .int f := by rcases h with rfl | rfl | rfl | rfl <;> first | (intro _; rfl) | (intro q; exact absurd q (by decide))
theorem own_k43 {f o x0 x1 x2 x3 d : Int32} (h : own_O o) : ((3 : Int32) < o ∨ ¬ (3 : Int32) < o + (4 : Int32)) → (own_v4 f o x0 x1 x2 x3).getD (3 : Int32).toNatClampNeg (.int d) = .int f := by rcases h with rfl | rfl | rfl | rfl <;> first | (intro _; rfl) | (intro q; exact absurd q (by decide))
theorem own_k44 {f o x0 x1 x2 x3 d : Int32} (h : own_O o) : ((4 : Int32) < o ∨ ¬ (4 : Int32) < o + (4 : Int32)) → (own_v4 f o x0 x1 x2 x3).getD (4 : Int32).toNatClampNeg (.int d) = .int f := by rcases h with rfl | rfl | rfl | rfl <;> first | (intro _; rfl) | (intro q; exact absurd q (by decide))
theorem own_k45 {f o x0 x1 x2 x3 d : Int32} (h : own_O o) : ((5 : Int32) < o ∨ ¬ (5 : Int32) < o + (4 : Int32)) → (own_v4 f o x0 x1 x2 x3).getD (5 : Int32).toNatClampNeg (.int d) = .int f := by rcases h with rfl | rfl | rfl | rfl <;> first | (intro _; rfl) | (intro q; exact absurd q (by decide))
theorem own_k46 {f o x0 x1 x2 x3 d : Int32} (h : own_O o) : ((6 : Int32) < o ∨ ¬ (6 : Int32) < o + (4 : Int32)) → (own_v4 f o x0 x1 x2 x3).getD (6 : Int32).toNatClampNeg (.int d) = .int f := by rcases h with rfl | rfl | rfl | rfl <;> first | (intro _; rfl) | (intro q; exact absurd q (by decide))
theorem own_k47 {f o x0 x1 x2 x3 d : Int32} (h : own_O o) : ((7 : Int32) < o ∨ ¬ (7 : Int32) < o + (4 : Int32)) → (own_v4 f o x0 x1 x2 x3).getD (7 : Int32).toNatClampNeg (.int d) = .int f := by rcases h with rfl | rfl | rfl | rfl <;> first | (intro _; rfl) | (intro q; exact absurd q (by decide))
def own_lst (c l : Int32) : Int32 := if c < l then (-1 : Int32) else if c < (55296 : Int32) then (if (1114111 : Int32) < c then (-1 : Int32) else c) else if (57343 : Int32) < c then (if (1114111 : Int32) < c then (-1 : Int32) else c) else (-1 : Int32)
def own_c2 (x0 x1 : Int32) : Int32 := (((x0 &&& (31 : Int32)) <<< ((6 : Int32) &&& 31)) ||| (x1 &&& (63 : Int32)))
def own_c3 (x0 x1 x2 : Int32) : Int32 := (((((x0 &&& (15 : Int32)) <<< ((6 : Int32) &&& 31)) ||| (x1 &&& (63 : Int32))) <<< ((6 : Int32) &&& 31)) ||| (x2 &&& (63 : Int32)))
def own_c4 (x0 x1 x2 x3 : Int32) : Int32 := (((((((x0 &&& (7 : Int32)) <<< ((6 : Int32) &&& 31)) ||| (x1 &&& (63 : Int32))) <<< ((6 : Int32) &&& 31)) ||| (x2 &&& (63 : Int32))) <<< ((6 : Int32) &&& 31)) ||| (x3 &&& (63 : Int32)))
def own_dec2 (x0 x1 : Int32) : Int32 := if (x1 &&& (192 : Int32)) = (128 : Int32) then own_lst (own_c2 x0 x1) (128 : Int32) else (-1 : Int32)
def own_dec3 (x0 x1 x2 : Int32) : Int32 := if (x1 &&& (192 : Int32)) = (128 : Int32) then (if (x2 &&& (192 : Int32)) = (128 : Int32) then own_lst (own_c3 x0 x1 x2) (2048 : Int32) else (-1 : Int32)) else (-1 : Int32)
def own_dec4 (x0 x1 x2 x3 : Int32) : Int32 := if (x1 &&& (192 : Int32)) = (128 : Int32) then (if (x2 &&& (192 : Int32)) = (128 : Int32) then (if (x3 &&& (192 : Int32)) = (128 : Int32) then own_lst (own_c4 x0 x1 x2 x3) (65536 : Int32) else (-1 : Int32)) else (-1 : Int32)) else (-1 : Int32)
theorem own_len {Z : State} {args : Array Value} {t : Term} {x : Addr} {c : Cell} {ty : FieldType} {k : Int32} (ht : t.eval args Z none [] Z = some (.ref x)) (A : Arr Z Z.heap x c ty) (h : (Jvm.Cond.eq (.length t) (.int k)).value args Z none Z [] = some true) : c.slots.size = k.toNatClampNeg ∧ c.slots.size < 2 ^ 31 ∧ c.slots.size.toInt32 = k := by
  have e := own_eqI h
  have a := A.fin (Vm.Alike.refl Z.vm)
  by_cases q : c.slots.size < 2 ^ 31
  · rw [len_f ht a q] at e
    have e2 : c.slots.size.toInt32 = k := Value.int.inj (Option.some.inj e)
    refine ⟨?_, q, e2⟩
    rw [← e2]; simp only [Int32.toNatClampNeg, len_toInt q]; rfl
  · simp [Term.eval, ht, a, q] at e
def own_len8 (u : Int32) : Int32 := if u < (0 : Int32) then (if ¬ u < (-62 : Int32) ∧ ¬ (-33 : Int32) < u then (2 : Int32) else if ¬ u < (-32 : Int32) ∧ ¬ (-17 : Int32) < u then (3 : Int32) else if ¬ u < (-16 : Int32) ∧ ¬ (-12 : Int32) < u then (4 : Int32) else (0 : Int32)) else (1 : Int32)
theorem own_t1 : ∀ i : Fin 128, own_len8 (Int32.ofInt (0 + (i.1 : Int))).toInt8.toInt32 = 1 := by decide +kernel
theorem own_t2 : ∀ i : Fin 30, own_len8 ((192 : Int32) ||| (Int32.ofInt (2 + (i.1 : Int)))).toInt8.toInt32 = 2 := by decide +kernel
theorem own_t3 : ∀ i : Fin 16, own_len8 ((224 : Int32) ||| (Int32.ofInt (0 + (i.1 : Int)))).toInt8.toInt32 = 3 := by decide +kernel
theorem own_t4 : ∀ i : Fin 5, own_len8 ((240 : Int32) ||| (Int32.ofInt (0 + (i.1 : Int)))).toInt8.toInt32 = 4 := by decide +kernel
theorem own_m1 {p : Int32} (h1 : 0 ≤ p.toInt) (h2 : p.toInt < 128) : own_len8 (p.toInt8.toInt32) = 1 := by
  obtain ⟨i, hi⟩ := own_fin (x := p) (lo := 0) (k := 128) h1 (by omega)
  rw [hi]; exact own_t1 i
theorem own_m2 {p : Int32} (h1 : 128 ≤ p.toInt) (h2 : p.toInt < 2048) : own_len8 (((192 : Int32) ||| (p >>> ((6 : Int32) &&& 31))).toInt8.toInt32) = 2 := by
  have s := c_ishr p 6 6 (by decide)
  obtain ⟨i, hi⟩ := own_fin (x := p >>> ((6 : Int32) &&& 31)) (lo := 2) (k := 30) (by omega) (by omega)
  rw [hi]; exact own_t2 i
theorem own_m3 {p : Int32} (h1 : 2048 ≤ p.toInt) (h2 : p.toInt < 65536) : own_len8 (((224 : Int32) ||| (p >>> ((12 : Int32) &&& 31))).toInt8.toInt32) = 3 := by
  have s := c_ishr p 12 12 (by decide)
  obtain ⟨i, hi⟩ := own_fin (x := p >>> ((12 : Int32) &&& 31)) (lo := 0) (k := 16) (by omega) (by omega)
  rw [hi]; exact own_t3 i
theorem own_m4 {p : Int32} (h1 : 65536 ≤ p.toInt) (h2 : p.toInt < 1114112) : own_len8 (((240 : Int32) ||| (p >>> ((18 : Int32) &&& 31))).toInt8.toInt32) = 4 := by
  have s := c_ishr p 18 18 (by decide)
  obtain ⟨i, hi⟩ := own_fin (x := p >>> ((18 : Int32) &&& 31)) (lo := 0) (k := 5) (by omega) (by omega)
  rw [hi]; exact own_t4 i
theorem own_k64 : ∀ i : Fin 64, (((128 : Int32) ||| Int32.ofInt (0 + (i.1 : Int))).toInt8.toInt32 &&& (192 : Int32)) = (128 : Int32) ∧ (((128 : Int32) ||| Int32.ofInt (0 + (i.1 : Int))).toInt8.toInt32 &&& (63 : Int32)) = Int32.ofInt (0 + (i.1 : Int)) := by decide +kernel
theorem own_c64 {t : Int32} (h1 : 0 ≤ t.toInt) (h2 : t.toInt ≤ 63) : (((128 : Int32) ||| t).toInt8.toInt32 &&& (192 : Int32)) = (128 : Int32) ∧ (((128 : Int32) ||| t).toInt8.toInt32 &&& (63 : Int32)) = t := by
  obtain ⟨i, hi⟩ := own_fin (x := t) (lo := 0) (k := 64) h1 (by omega)
  rw [hi]; exact own_k64 i
theorem own_a2 : ∀ i : Fin 32, (((192 : Int32) ||| Int32.ofInt (0 + (i.1 : Int))).toInt8.toInt32 &&& (31 : Int32)) = Int32.ofInt (0 + (i.1 : Int)) := by decide +kernel
theorem own_a3 : ∀ i : Fin 16, (((224 : Int32) ||| Int32.ofInt (0 + (i.1 : Int))).toInt8.toInt32 &&& (15 : Int32)) = Int32.ofInt (0 + (i.1 : Int)) := by decide +kernel
theorem own_a4 : ∀ i : Fin 8, (((240 : Int32) ||| Int32.ofInt (0 + (i.1 : Int))).toInt8.toInt32 &&& (7 : Int32)) = Int32.ofInt (0 + (i.1 : Int)) := by decide +kernel
theorem own_V6 {A B : Int32} (a1 : 0 ≤ A.toInt) (a2 : A.toInt ≤ 33554431) (b1 : 0 ≤ B.toInt) (b2 : B.toInt ≤ 63) : ((A <<< ((6 : Int32) &&& 31)) ||| B).toInt = A.toInt * 64 + B.toInt := by
  have s := c_ishl A 6 6 (by decide)
  have r1 := rng32 (A <<< ((6 : Int32) &&& 31))
  have o := c_or (A <<< ((6 : Int32) &&& 31)) B 6 (by decide) 64 (by decide) (by omega) b1 (by omega)
  have r2 := rng32 ((A <<< ((6 : Int32) &&& 31)) ||| B)
  omega
theorem own_lstV {c l : Int32} (h1 : l.toInt ≤ c.toInt) (h2 : c.toInt < 55296 ∨ 57343 < c.toInt) (h3 : c.toInt ≤ 1114111) : own_lst c l = c := by
  unfold own_lst; simp only [Int32.lt_iff_toInt_lt, Int32.reduceToInt]
  repeat' split
  all_goals first | rfl | (exfalso; omega)
theorem own_d2 {p : Int32} (h1 : 128 ≤ p.toInt) (h2 : p.toInt < 2048) : own_dec2 (((192 : Int32) ||| (p >>> ((6 : Int32) &&& 31))).toInt8.toInt32) (((128 : Int32) ||| (p &&& (63 : Int32))).toInt8.toInt32) = p := by
  have s6 := c_ishr p 6 6 (by decide)
  have m0 := c_mask p 63 6 (by decide) (by decide)
  obtain ⟨q1, q2⟩ := own_c64 (t := p &&& (63 : Int32)) (by omega) (by omega)
  obtain ⟨i, hi⟩ := own_fin (x := p >>> ((6 : Int32) &&& 31)) (lo := 0) (k := 32) (by omega) (by omega)
  have a : ((192 : Int32) ||| (p >>> ((6 : Int32) &&& 31))).toInt8.toInt32 &&& (31 : Int32) = p >>> ((6 : Int32) &&& 31) := by rw [hi]; exact own_a2 i
  unfold own_dec2 own_c2
  rw [if_pos q1, q2, a]
  have v := own_V6 (A := p >>> ((6 : Int32) &&& 31)) (B := p &&& (63 : Int32)) (by omega) (by omega) (by omega) (by omega)
  rw [show ((p >>> ((6 : Int32) &&& 31)) <<< ((6 : Int32) &&& 31)) ||| (p &&& (63 : Int32)) = p from Int32.toInt_inj.mp (by rw [v]; omega)]
  exact own_lstV (by simp only [Int32.reduceToInt]; omega) (by omega) (by omega)
theorem own_d3 {p : Int32} (h1 : 2048 ≤ p.toInt) (h2 : p.toInt < 65536) (h3 : p.toInt < 55296 ∨ 57343 < p.toInt) : own_dec3 (((224 : Int32) ||| (p >>> ((12 : Int32) &&& 31))).toInt8.toInt32) (((128 : Int32) ||| ((p >>> ((6 : Int32) &&& 31)) &&& (63 : Int32))).toInt8.toInt32) (((128 : Int32) ||| (p &&& (63 : Int32))).toInt8.toInt32) = p := by
  have s12 := c_ishr p 12 12 (by decide)
  have s6 := c_ishr p 6 6 (by decide)
  have m0 := c_mask p 63 6 (by decide) (by decide)
  have m1 := c_mask (p >>> ((6 : Int32) &&& 31)) 63 6 (by decide) (by decide)
  obtain ⟨q1, q2⟩ := own_c64 (t := p &&& (63 : Int32)) (by omega) (by omega)
  obtain ⟨r1, r2⟩ := own_c64 (t := (p >>> ((6 : Int32) &&& 31)) &&& (63 : Int32)) (by omega) (by omega)
  obtain ⟨i, hi⟩ := own_fin (x := p >>> ((12 : Int32) &&& 31)) (lo := 0) (k := 16) (by omega) (by omega)
  have a : ((224 : Int32) ||| (p >>> ((12 : Int32) &&& 31))).toInt8.toInt32 &&& (15 : Int32) = p >>> ((12 : Int32) &&& 31) := by rw [hi]; exact own_a3 i
  unfold own_dec3 own_c3
  rw [if_pos r1, if_pos q1, q2, r2, a]
  have v := own_V6 (A := p >>> ((12 : Int32) &&& 31)) (B := (p >>> ((6 : Int32) &&& 31)) &&& (63 : Int32)) (by omega) (by omega) (by omega) (by omega)
  have w := own_V6 (A := ((p >>> ((12 : Int32) &&& 31)) <<< ((6 : Int32) &&& 31)) ||| ((p >>> ((6 : Int32) &&& 31)) &&& (63 : Int32))) (B := p &&& (63 : Int32)) (by omega) (by omega) (by omega) (by omega)
  rw [show ((((p >>> ((12 : Int32) &&& 31)) <<< ((6 : Int32) &&& 31)) ||| ((p >>> ((6 : Int32) &&& 31)) &&& (63 : Int32))) <<< ((6 : Int32) &&& 31)) ||| (p &&& (63 : Int32)) = p from Int32.toInt_inj.mp (by rw [w, v]; omega)]
  exact own_lstV (by simp only [Int32.reduceToInt]; omega) h3 (by omega)
theorem own_d4 {p : Int32} (h1 : 65536 ≤ p.toInt) (h2 : p.toInt < 1114112) : own_dec4 (((240 : Int32) ||| (p >>> ((18 : Int32) &&& 31))).toInt8.toInt32) (((128 : Int32) ||| ((p >>> ((12 : Int32) &&& 31)) &&& (63 : Int32))).toInt8.toInt32) (((128 : Int32) ||| ((p >>> ((6 : Int32) &&& 31)) &&& (63 : Int32))).toInt8.toInt32) (((128 : Int32) ||| (p &&& (63 : Int32))).toInt8.toInt32) = p := by
  have s18 := c_ishr p 18 18 (by decide)
  have s12 := c_ishr p 12 12 (by decide)
  have s6 := c_ishr p 6 6 (by decide)
  have m0 := c_mask p 63 6 (by decide) (by decide)
  have m1 := c_mask (p >>> ((6 : Int32) &&& 31)) 63 6 (by decide) (by decide)
  have m2 := c_mask (p >>> ((12 : Int32) &&& 31)) 63 6 (by decide) (by decide)
  obtain ⟨q1, q2⟩ := own_c64 (t := p &&& (63 : Int32)) (by omega) (by omega)
  obtain ⟨r1, r2⟩ := own_c64 (t := (p >>> ((6 : Int32) &&& 31)) &&& (63 : Int32)) (by omega) (by omega)
  obtain ⟨t1, t2⟩ := own_c64 (t := (p >>> ((12 : Int32) &&& 31)) &&& (63 : Int32)) (by omega) (by omega)
  obtain ⟨i, hi⟩ := own_fin (x := p >>> ((18 : Int32) &&& 31)) (lo := 0) (k := 8) (by omega) (by omega)
  have a : ((240 : Int32) ||| (p >>> ((18 : Int32) &&& 31))).toInt8.toInt32 &&& (7 : Int32) = p >>> ((18 : Int32) &&& 31) := by rw [hi]; exact own_a4 i
  unfold own_dec4 own_c4
  rw [if_pos t1, if_pos r1, if_pos q1, q2, r2, t2, a]
  have v := own_V6 (A := p >>> ((18 : Int32) &&& 31)) (B := (p >>> ((12 : Int32) &&& 31)) &&& (63 : Int32)) (by omega) (by omega) (by omega) (by omega)
  have w := own_V6 (A := ((p >>> ((18 : Int32) &&& 31)) <<< ((6 : Int32) &&& 31)) ||| ((p >>> ((12 : Int32) &&& 31)) &&& (63 : Int32))) (B := (p >>> ((6 : Int32) &&& 31)) &&& (63 : Int32)) (by omega) (by omega) (by omega) (by omega)
  have u := own_V6 (A := ((((p >>> ((18 : Int32) &&& 31)) <<< ((6 : Int32) &&& 31)) ||| ((p >>> ((12 : Int32) &&& 31)) &&& (63 : Int32))) <<< ((6 : Int32) &&& 31)) ||| ((p >>> ((6 : Int32) &&& 31)) &&& (63 : Int32))) (B := p &&& (63 : Int32)) (by omega) (by omega) (by omega) (by omega)
  rw [show ((((((p >>> ((18 : Int32) &&& 31)) <<< ((6 : Int32) &&& 31)) ||| ((p >>> ((12 : Int32) &&& 31)) &&& (63 : Int32))) <<< ((6 : Int32) &&& 31)) ||| ((p >>> ((6 : Int32) &&& 31)) &&& (63 : Int32))) <<< ((6 : Int32) &&& 31)) ||| (p &&& (63 : Int32)) = p from Int32.toInt_inj.mp (by rw [u, w, v]; omega)]
  exact own_lstV (by simp only [Int32.reduceToInt]; omega) (by omega) (by omega)
theorem own_q0 (x : Int32) : 0 ≤ (x &&& (127 : Int32)).toInt ∧ (x &&& (127 : Int32)).toInt < 128 := by
  have h := c_mask x 127 7 (by decide) (by decide); omega
theorem own_q1 (x : Int32) : 128 ≤ ((128 : Int32) + (x &&& (2147483647 : Int32)) % (1920 : Int32)).toInt ∧ ((128 : Int32) + (x &&& (2147483647 : Int32)) % (1920 : Int32)).toInt < 2048 := by
  have h := c_mask x 2147483647 31 (by decide) (by decide)
  have h2 := (c_irem (x &&& (2147483647 : Int32)) 1920 1920 (by decide)).1 (by omega)
  have h3 := c_iadd (128 : Int32) ((x &&& (2147483647 : Int32)) % (1920 : Int32))
  have h4 := rng32 ((128 : Int32) + (x &&& (2147483647 : Int32)) % (1920 : Int32))
  simp only [Int32.reduceToInt] at *
  omega
theorem own_q2 (x : Int32) : 2048 ≤ ((2048 : Int32) + (x &&& (2147483647 : Int32)) % (61440 : Int32)).toInt ∧ ((2048 : Int32) + (x &&& (2147483647 : Int32)) % (61440 : Int32)).toInt < 63488 := by
  have h := c_mask x 2147483647 31 (by decide) (by decide)
  have h2 := (c_irem (x &&& (2147483647 : Int32)) 61440 61440 (by decide)).1 (by omega)
  have h3 := c_iadd (2048 : Int32) ((x &&& (2147483647 : Int32)) % (61440 : Int32))
  have h4 := rng32 ((2048 : Int32) + (x &&& (2147483647 : Int32)) % (61440 : Int32))
  simp only [Int32.reduceToInt] at *
  omega
theorem own_q2a {x : Int32} (h0 : x.toInt < 63488) (h : ¬ x < (55296 : Int32)) : 57344 ≤ (x + (2048 : Int32)).toInt ∧ (x + (2048 : Int32)).toInt < 65536 := by
  rw [Int32.lt_iff_toInt_lt] at h
  have h3 := c_iadd x (2048 : Int32)
  have h4 := rng32 (x + (2048 : Int32))
  simp only [Int32.reduceToInt] at *
  omega
theorem own_q3 (x : Int32) : 65536 ≤ ((65536 : Int32) + (x &&& (2147483647 : Int32)) % (1048576 : Int32)).toInt ∧ ((65536 : Int32) + (x &&& (2147483647 : Int32)) % (1048576 : Int32)).toInt < 1114112 := by
  have h := c_mask x 2147483647 31 (by decide) (by decide)
  have h2 := (c_irem (x &&& (2147483647 : Int32)) 1048576 1048576 (by decide)).1 (by omega)
  have h3 := c_iadd (65536 : Int32) ((x &&& (2147483647 : Int32)) % (1048576 : Int32))
  have h4 := rng32 ((65536 : Int32) + (x &&& (2147483647 : Int32)) % (1048576 : Int32))
  simp only [Int32.reduceToInt] at *
  omega
theorem d3_0 : decode prog_118_method_2_code 0 = .ok (.iload_n 0, 1) := by decide +kernel
theorem d3_1 : decode prog_118_method_2_code 1 = .ok (.ifCond .lt 8, 3) := by decide +kernel
theorem d3_4 : decode prog_118_method_2_code 4 = .ok (.iconst 1, 1) := by decide +kernel
theorem d3_5 : decode prog_118_method_2_code 5 = .ok (.istore_n 1, 1) := by decide +kernel
theorem d3_6 : decode prog_118_method_2_code 6 = .ok (.goto 56, 3) := by decide +kernel
theorem d3_9 : decode prog_118_method_2_code 9 = .ok (.iload_n 0, 1) := by decide +kernel
theorem d3_10 : decode prog_118_method_2_code 10 = .ok (.bipush (-62), 2) := by decide +kernel
theorem d3_12 : decode prog_118_method_2_code 12 = .ok (.if_icmp .lt 14, 3) := by decide +kernel
theorem d3_15 : decode prog_118_method_2_code 15 = .ok (.iload_n 0, 1) := by decide +kernel
theorem d3_16 : decode prog_118_method_2_code 16 = .ok (.bipush (-33), 2) := by decide +kernel
theorem d3_18 : decode prog_118_method_2_code 18 = .ok (.if_icmp .gt 8, 3) := by decide +kernel
theorem d3_21 : decode prog_118_method_2_code 21 = .ok (.iconst 2, 1) := by decide +kernel
theorem d3_22 : decode prog_118_method_2_code 22 = .ok (.istore_n 1, 1) := by decide +kernel
theorem d3_23 : decode prog_118_method_2_code 23 = .ok (.goto 39, 3) := by decide +kernel
theorem d3_26 : decode prog_118_method_2_code 26 = .ok (.iload_n 0, 1) := by decide +kernel
theorem d3_27 : decode prog_118_method_2_code 27 = .ok (.bipush (-32), 2) := by decide +kernel
theorem d3_29 : decode prog_118_method_2_code 29 = .ok (.if_icmp .lt 14, 3) := by decide +kernel
theorem d3_32 : decode prog_118_method_2_code 32 = .ok (.iload_n 0, 1) := by decide +kernel
theorem d3_33 : decode prog_118_method_2_code 33 = .ok (.bipush (-17), 2) := by decide +kernel
theorem d3_35 : decode prog_118_method_2_code 35 = .ok (.if_icmp .gt 8, 3) := by decide +kernel
theorem d3_38 : decode prog_118_method_2_code 38 = .ok (.iconst 3, 1) := by decide +kernel
theorem d3_39 : decode prog_118_method_2_code 39 = .ok (.istore_n 1, 1) := by decide +kernel
theorem d3_40 : decode prog_118_method_2_code 40 = .ok (.goto 22, 3) := by decide +kernel
theorem d3_43 : decode prog_118_method_2_code 43 = .ok (.iload_n 0, 1) := by decide +kernel
theorem d3_44 : decode prog_118_method_2_code 44 = .ok (.bipush (-16), 2) := by decide +kernel
theorem d3_46 : decode prog_118_method_2_code 46 = .ok (.if_icmp .lt 14, 3) := by decide +kernel
theorem d3_49 : decode prog_118_method_2_code 49 = .ok (.iload_n 0, 1) := by decide +kernel
theorem d3_50 : decode prog_118_method_2_code 50 = .ok (.bipush (-12), 2) := by decide +kernel
theorem d3_52 : decode prog_118_method_2_code 52 = .ok (.if_icmp .gt 8, 3) := by decide +kernel
theorem d3_55 : decode prog_118_method_2_code 55 = .ok (.iconst 4, 1) := by decide +kernel
theorem d3_56 : decode prog_118_method_2_code 56 = .ok (.istore_n 1, 1) := by decide +kernel
theorem d3_57 : decode prog_118_method_2_code 57 = .ok (.goto 5, 3) := by decide +kernel
theorem d3_60 : decode prog_118_method_2_code 60 = .ok (.iconst 0, 1) := by decide +kernel
theorem d3_61 : decode prog_118_method_2_code 61 = .ok (.istore_n 1, 1) := by decide +kernel
theorem d3_62 : decode prog_118_method_2_code 62 = .ok (.iload_n 1, 1) := by decide +kernel
theorem d3_63 : decode prog_118_method_2_code 63 = .ok (.ireturn, 1) := by decide +kernel
theorem pn_c1 : plainName "com/example/templum/templum/validation/Utf8" = true := by first | (simp [plainName, overriddenIn]; done) | decide +kernel
theorem ef_3_I (m : MethodId) (x0 : Int32) : entryFrame m #[(.int x0)] 2 = mkF m 0 #[.val (.int x0), .unset] [] := by first | (simp [entryFrame, mkF, argsToLocals, Value.category]; done) | rfl
set_option maxRecDepth 65536 in
set_option maxHeartbeats 40000000 in
theorem rm_len (l : Launch) (Z : State) (a0 : Array Value) (hw : ∀ d ∈ tables_1, d.before a0 Z = true) (p1 : Int32) (h0 : Heap) (n0 : Nat)  :
    own_Met l Z (⟨"com/example/templum/templum/validation/Utf8", "length", "(B)I"⟩ : MethodName) prog_118_method_2_code 2 (some .int) ({ frames := 0, cells := 0, slots := 0, locals := 0 } : Room) #[(.int p1)] h0 (fun v h L => v = some (.int (own_len8 p1)) ∧ Fr n0 L ∧ h = h0) := by
  intro ws
  refine MetFree.of_bodySF (plainFor_of_name pn_c1) hisR ?_
  intro p e s m args below meth c s₁ Bd hml0 hP hK
  obtain ⟨rfl, hZ, hh⟩ := hP
  have hx := Bd.exec
  have hby := Bd.bytes
  have hml : c.maxLocals = 2 := hml0
  have hown : s.vm.findClass "com/example/templum/templum/validation/Utf8" = some m.cls := findClass_of_methodNamed Bd.named
  have hnm := (name_of_methodNamed Bd.named Bd.method).1
  have hlk : meth.locks = false := Bd.notSynchronized
  have X0 : Stand p l e ({ frames := 0, cells := 0, slots := 0, locals := 0 } : Room) s m #[(.int p1)] below meth c s₁ [] 0 0 := Stand.of_body Bd
  have e0 : s₁.heap = h0 := by rw [← hh, Bd.state]; rfl
  have N0 := Fr.nil n0
  refine own_body (Q := fun v h L => v = some (.int (own_len8 p1)) ∧ Fr n0 L ∧ h = h0) ?_
  generalize hΦ : own_Fin s below _ _ _ = Φ
  refine own_cast (ef_3_I m p1) ?_
  show own_Run p e below Φ (s₁.setTop (mkF m 0 #[.val (.int p1), .unset] []))
  refine own_go (fun t k => XS.iloadN X0.here hx rfl (hb hby d3_0) rfl  k) ?_
  by_cases hc1 : p1 < (0 : Int32)
  · refine own_go (fun t k => XS.ifYes X0.here hx rfl (pc0 := 1) (pc' := 9) rfl (hb hby d3_1) rfl ((if0 _ _).trans (tlt hc1).1) (by decide) (by decide) k) ?_
    refine own_go (fun t k => XS.iloadN X0.here hx rfl (hb hby d3_9) rfl  k) ?_
    refine own_go (fun t k => XS.bipush X0.here hx rfl (hb hby d3_10) k) ?_
    by_cases hc12 : p1 < (-62 : Int32)
    · refine own_go (fun t k => XS.icmpYes X0.here hx rfl (pc0 := 12) (pc' := 26) rfl (hb hby d3_12) rfl (tlt hc12).1 (by decide) (by decide) k) ?_
      show own_Run p e below Φ (s₁.setTop (mkF m 26 #[.val (.int p1), .unset] []))
      refine own_go (fun t k => XS.iloadN X0.here hx rfl (hb hby d3_26) rfl  k) ?_
      refine own_go (fun t k => XS.bipush X0.here hx rfl (hb hby d3_27) k) ?_
      by_cases hc29 : p1 < (-32 : Int32)
      · refine own_go (fun t k => XS.icmpYes X0.here hx rfl (pc0 := 29) (pc' := 43) rfl (hb hby d3_29) rfl (tlt hc29).1 (by decide) (by decide) k) ?_
        refine own_go (fun t k => XS.iloadN X0.here hx rfl (hb hby d3_43) rfl  k) ?_
        refine own_go (fun t k => XS.bipush X0.here hx rfl (hb hby d3_44) k) ?_
        show own_Run p e below Φ (s₁.setTop (mkF m 46 #[.val (.int p1), .unset] [(.int (-16 : Int32)), (.int p1)]))
        by_cases hc46 : p1 < (-16 : Int32)
        · refine own_go (fun t k => XS.icmpYes X0.here hx rfl (pc0 := 46) (pc' := 60) rfl (hb hby d3_46) rfl (tlt hc46).1 (by decide) (by decide) k) ?_
          refine own_go (fun t k => XS.iconst X0.here hx rfl (hb hby d3_60) k) ?_
          refine own_go (fun t k => XS.istoreN X0.here hx rfl (hb hby d3_61) rfl (l' := #[.val (.int p1), .val (.int (0 : Int32))]) rfl k) ?_
          refine own_go (fun t k => XS.iloadN X0.here hx rfl (hb hby d3_62) rfl  k) ?_
          subst hΦ
          exact own_retI X0 hx Bd.returns hlk (hb hby d3_63) e0 ⟨(by simp [own_len8, hc1, hc12, hc29, hc46]), N0, rfl⟩ (by decide) (by decide)
        · refine own_go (fun t k => XS.icmpNo X0.here hx rfl (hb hby d3_46) rfl (flt hc46).1 k) ?_
          show own_Run p e below Φ (s₁.setTop (mkF m 49 #[.val (.int p1), .unset] []))
          refine own_go (fun t k => XS.iloadN X0.here hx rfl (hb hby d3_49) rfl  k) ?_
          refine own_go (fun t k => XS.bipush X0.here hx rfl (hb hby d3_50) k) ?_
          by_cases hc52 : (-12 : Int32) < p1
          · refine own_go (fun t k => XS.icmpYes X0.here hx rfl (pc0 := 52) (pc' := 60) rfl (hb hby d3_52) rfl (tlt hc52).2.2.1 (by decide) (by decide) k) ?_
            refine own_go (fun t k => XS.iconst X0.here hx rfl (hb hby d3_60) k) ?_
            refine own_go (fun t k => XS.istoreN X0.here hx rfl (hb hby d3_61) rfl (l' := #[.val (.int p1), .val (.int (0 : Int32))]) rfl k) ?_
            show own_Run p e below Φ (s₁.setTop (mkF m 62 #[.val (.int p1), .val (.int (0 : Int32))] []))
            refine own_go (fun t k => XS.iloadN X0.here hx rfl (hb hby d3_62) rfl  k) ?_
            subst hΦ
            exact own_retI X0 hx Bd.returns hlk (hb hby d3_63) e0 ⟨(by simp [own_len8, hc1, hc12, hc29, hc46, hc52]), N0, rfl⟩ (by decide) (by decide)
          · refine own_go (fun t k => XS.icmpNo X0.here hx rfl (hb hby d3_52) rfl (flt hc52).2.2.1 k) ?_
            refine own_go (fun t k => XS.iconst X0.here hx rfl (hb hby d3_55) k) ?_
            refine own_go (fun t k => XS.istoreN X0.here hx rfl (hb hby d3_56) rfl (l' := #[.val (.int p1), .val (.int (4 : Int32))]) rfl k) ?_
            refine own_go (fun t k => XS.goto X0.here hx rfl (pc0 := 57) (pc' := 62) rfl (hb hby d3_57) (by decide) (by decide) k) ?_
            show own_Run p e below Φ (s₁.setTop (mkF m 62 #[.val (.int p1), .val (.int (4 : Int32))] []))
            refine own_go (fun t k => XS.iloadN X0.here hx rfl (hb hby d3_62) rfl  k) ?_
            subst hΦ
            exact own_retI X0 hx Bd.returns hlk (hb hby d3_63) e0 ⟨(by simp [own_len8, hc1, hc12, hc29, hc46, hc52]), N0, rfl⟩ (by decide) (by decide)
      · refine own_go (fun t k => XS.icmpNo X0.here hx rfl (hb hby d3_29) rfl (flt hc29).1 k) ?_
        refine own_go (fun t k => XS.iloadN X0.here hx rfl (hb hby d3_32) rfl  k) ?_
        refine own_go (fun t k => XS.bipush X0.here hx rfl (hb hby d3_33) k) ?_
        by_cases hc35 : (-17 : Int32) < p1
        · refine own_go (fun t k => XS.icmpYes X0.here hx rfl (pc0 := 35) (pc' := 43) rfl (hb hby d3_35) rfl (tlt hc35).2.2.1 (by decide) (by decide) k) ?_
          show own_Run p e below Φ (s₁.setTop (mkF m 43 #[.val (.int p1), .unset] []))
          refine own_go (fun t k => XS.iloadN X0.here hx rfl (hb hby d3_43) rfl  k) ?_
          refine own_go (fun t k => XS.bipush X0.here hx rfl (hb hby d3_44) k) ?_
          by_cases hc46 : p1 < (-16 : Int32)
          · refine own_go (fun t k => XS.icmpYes X0.here hx rfl (pc0 := 46) (pc' := 60) rfl (hb hby d3_46) rfl (tlt hc46).1 (by decide) (by decide) k) ?_
            refine own_go (fun t k => XS.iconst X0.here hx rfl (hb hby d3_60) k) ?_
            refine own_go (fun t k => XS.istoreN X0.here hx rfl (hb hby d3_61) rfl (l' := #[.val (.int p1), .val (.int (0 : Int32))]) rfl k) ?_
            show own_Run p e below Φ (s₁.setTop (mkF m 62 #[.val (.int p1), .val (.int (0 : Int32))] []))
            refine own_go (fun t k => XS.iloadN X0.here hx rfl (hb hby d3_62) rfl  k) ?_
            subst hΦ
            exact own_retI X0 hx Bd.returns hlk (hb hby d3_63) e0 ⟨(by simp [own_len8, hc1, hc12, hc29, hc35, hc46]), N0, rfl⟩ (by decide) (by decide)
          · refine own_go (fun t k => XS.icmpNo X0.here hx rfl (hb hby d3_46) rfl (flt hc46).1 k) ?_
            refine own_go (fun t k => XS.iloadN X0.here hx rfl (hb hby d3_49) rfl  k) ?_
            refine own_go (fun t k => XS.bipush X0.here hx rfl (hb hby d3_50) k) ?_
            by_cases hc52 : (-12 : Int32) < p1
            · refine own_go (fun t k => XS.icmpYes X0.here hx rfl (pc0 := 52) (pc' := 60) rfl (hb hby d3_52) rfl (tlt hc52).2.2.1 (by decide) (by decide) k) ?_
              show own_Run p e below Φ (s₁.setTop (mkF m 60 #[.val (.int p1), .unset] []))
              refine own_go (fun t k => XS.iconst X0.here hx rfl (hb hby d3_60) k) ?_
              refine own_go (fun t k => XS.istoreN X0.here hx rfl (hb hby d3_61) rfl (l' := #[.val (.int p1), .val (.int (0 : Int32))]) rfl k) ?_
              refine own_go (fun t k => XS.iloadN X0.here hx rfl (hb hby d3_62) rfl  k) ?_
              subst hΦ
              exact own_retI X0 hx Bd.returns hlk (hb hby d3_63) e0 ⟨(by simp [own_len8, hc1, hc12, hc29, hc35, hc46, hc52]), N0, rfl⟩ (by decide) (by decide)
            · refine own_go (fun t k => XS.icmpNo X0.here hx rfl (hb hby d3_52) rfl (flt hc52).2.2.1 k) ?_
              refine own_go (fun t k => XS.iconst X0.here hx rfl (hb hby d3_55) k) ?_
              show own_Run p e below Φ (s₁.setTop (mkF m 56 #[.val (.int p1), .unset] [(.int (4 : Int32))]))
              refine own_go (fun t k => XS.istoreN X0.here hx rfl (hb hby d3_56) rfl (l' := #[.val (.int p1), .val (.int (4 : Int32))]) rfl k) ?_
              refine own_go (fun t k => XS.goto X0.here hx rfl (pc0 := 57) (pc' := 62) rfl (hb hby d3_57) (by decide) (by decide) k) ?_
              refine own_go (fun t k => XS.iloadN X0.here hx rfl (hb hby d3_62) rfl  k) ?_
              subst hΦ
              exact own_retI X0 hx Bd.returns hlk (hb hby d3_63) e0 ⟨(by simp [own_len8, hc1, hc12, hc29, hc35, hc46, hc52]), N0, rfl⟩ (by decide) (by decide)
        · refine own_go (fun t k => XS.icmpNo X0.here hx rfl (hb hby d3_35) rfl (flt hc35).2.2.1 k) ?_
          refine own_go (fun t k => XS.iconst X0.here hx rfl (hb hby d3_38) k) ?_
          show own_Run p e below Φ (s₁.setTop (mkF m 39 #[.val (.int p1), .unset] [(.int (3 : Int32))]))
          refine own_go (fun t k => XS.istoreN X0.here hx rfl (hb hby d3_39) rfl (l' := #[.val (.int p1), .val (.int (3 : Int32))]) rfl k) ?_
          refine own_go (fun t k => XS.goto X0.here hx rfl (pc0 := 40) (pc' := 62) rfl (hb hby d3_40) (by decide) (by decide) k) ?_
          refine own_go (fun t k => XS.iloadN X0.here hx rfl (hb hby d3_62) rfl  k) ?_
          subst hΦ
          exact own_retI X0 hx Bd.returns hlk (hb hby d3_63) e0 ⟨(by simp [own_len8, hc1, hc12, hc29, hc35]), N0, rfl⟩ (by decide) (by decide)
    · refine own_go (fun t k => XS.icmpNo X0.here hx rfl (hb hby d3_12) rfl (flt hc12).1 k) ?_
      refine own_go (fun t k => XS.iloadN X0.here hx rfl (hb hby d3_15) rfl  k) ?_
      show own_Run p e below Φ (s₁.setTop (mkF m 16 #[.val (.int p1), .unset] [(.int p1)]))
      refine own_go (fun t k => XS.bipush X0.here hx rfl (hb hby d3_16) k) ?_
      by_cases hc18 : (-33 : Int32) < p1
      · refine own_go (fun t k => XS.icmpYes X0.here hx rfl (pc0 := 18) (pc' := 26) rfl (hb hby d3_18) rfl (tlt hc18).2.2.1 (by decide) (by decide) k) ?_
        refine own_go (fun t k => XS.iloadN X0.here hx rfl (hb hby d3_26) rfl  k) ?_
        refine own_go (fun t k => XS.bipush X0.here hx rfl (hb hby d3_27) k) ?_
        by_cases hc29 : p1 < (-32 : Int32)
        · refine own_go (fun t k => XS.icmpYes X0.here hx rfl (pc0 := 29) (pc' := 43) rfl (hb hby d3_29) rfl (tlt hc29).1 (by decide) (by decide) k) ?_
          show own_Run p e below Φ (s₁.setTop (mkF m 43 #[.val (.int p1), .unset] []))
          refine own_go (fun t k => XS.iloadN X0.here hx rfl (hb hby d3_43) rfl  k) ?_
          refine own_go (fun t k => XS.bipush X0.here hx rfl (hb hby d3_44) k) ?_
          by_cases hc46 : p1 < (-16 : Int32)
          · refine own_go (fun t k => XS.icmpYes X0.here hx rfl (pc0 := 46) (pc' := 60) rfl (hb hby d3_46) rfl (tlt hc46).1 (by decide) (by decide) k) ?_
            refine own_go (fun t k => XS.iconst X0.here hx rfl (hb hby d3_60) k) ?_
            refine own_go (fun t k => XS.istoreN X0.here hx rfl (hb hby d3_61) rfl (l' := #[.val (.int p1), .val (.int (0 : Int32))]) rfl k) ?_
            show own_Run p e below Φ (s₁.setTop (mkF m 62 #[.val (.int p1), .val (.int (0 : Int32))] []))
            refine own_go (fun t k => XS.iloadN X0.here hx rfl (hb hby d3_62) rfl  k) ?_
            subst hΦ
            exact own_retI X0 hx Bd.returns hlk (hb hby d3_63) e0 ⟨(by simp [own_len8, hc1, hc12, hc18, hc29, hc46]), N0, rfl⟩ (by decide) (by decide)
          · refine own_go (fun t k => XS.icmpNo X0.here hx rfl (hb hby d3_46) rfl (flt hc46).1 k) ?_
            refine own_go (fun t k => XS.iloadN X0.here hx rfl (hb hby d3_49) rfl  k) ?_
            refine own_go (fun t k => XS.bipush X0.here hx rfl (hb hby d3_50) k) ?_
            by_cases hc52 : (-12 : Int32) < p1
            · refine own_go (fun t k => XS.icmpYes X0.here hx rfl (pc0 := 52) (pc' := 60) rfl (hb hby d3_52) rfl (tlt hc52).2.2.1 (by decide) (by decide) k) ?_
              show own_Run p e below Φ (s₁.setTop (mkF m 60 #[.val (.int p1), .unset] []))
              refine own_go (fun t k => XS.iconst X0.here hx rfl (hb hby d3_60) k) ?_
              refine own_go (fun t k => XS.istoreN X0.here hx rfl (hb hby d3_61) rfl (l' := #[.val (.int p1), .val (.int (0 : Int32))]) rfl k) ?_
              refine own_go (fun t k => XS.iloadN X0.here hx rfl (hb hby d3_62) rfl  k) ?_
              subst hΦ
              exact own_retI X0 hx Bd.returns hlk (hb hby d3_63) e0 ⟨(by simp [own_len8, hc1, hc12, hc18, hc29, hc46, hc52]), N0, rfl⟩ (by decide) (by decide)
            · refine own_go (fun t k => XS.icmpNo X0.here hx rfl (hb hby d3_52) rfl (flt hc52).2.2.1 k) ?_
              refine own_go (fun t k => XS.iconst X0.here hx rfl (hb hby d3_55) k) ?_
              show own_Run p e below Φ (s₁.setTop (mkF m 56 #[.val (.int p1), .unset] [(.int (4 : Int32))]))
              refine own_go (fun t k => XS.istoreN X0.here hx rfl (hb hby d3_56) rfl (l' := #[.val (.int p1), .val (.int (4 : Int32))]) rfl k) ?_
              refine own_go (fun t k => XS.goto X0.here hx rfl (pc0 := 57) (pc' := 62) rfl (hb hby d3_57) (by decide) (by decide) k) ?_
              refine own_go (fun t k => XS.iloadN X0.here hx rfl (hb hby d3_62) rfl  k) ?_
              subst hΦ
              exact own_retI X0 hx Bd.returns hlk (hb hby d3_63) e0 ⟨(by simp [own_len8, hc1, hc12, hc18, hc29, hc46, hc52]), N0, rfl⟩ (by decide) (by decide)
        · refine own_go (fun t k => XS.icmpNo X0.here hx rfl (hb hby d3_29) rfl (flt hc29).1 k) ?_
          refine own_go (fun t k => XS.iloadN X0.here hx rfl (hb hby d3_32) rfl  k) ?_
          show own_Run p e below Φ (s₁.setTop (mkF m 33 #[.val (.int p1), .unset] [(.int p1)]))
          refine own_go (fun t k => XS.bipush X0.here hx rfl (hb hby d3_33) k) ?_
          by_cases hc35 : (-17 : Int32) < p1
          · refine own_go (fun t k => XS.icmpYes X0.here hx rfl (pc0 := 35) (pc' := 43) rfl (hb hby d3_35) rfl (tlt hc35).2.2.1 (by decide) (by decide) k) ?_
            refine own_go (fun t k => XS.iloadN X0.here hx rfl (hb hby d3_43) rfl  k) ?_
            refine own_go (fun t k => XS.bipush X0.here hx rfl (hb hby d3_44) k) ?_
            by_cases hc46 : p1 < (-16 : Int32)
            · refine own_go (fun t k => XS.icmpYes X0.here hx rfl (pc0 := 46) (pc' := 60) rfl (hb hby d3_46) rfl (tlt hc46).1 (by decide) (by decide) k) ?_
              show own_Run p e below Φ (s₁.setTop (mkF m 60 #[.val (.int p1), .unset] []))
              refine own_go (fun t k => XS.iconst X0.here hx rfl (hb hby d3_60) k) ?_
              refine own_go (fun t k => XS.istoreN X0.here hx rfl (hb hby d3_61) rfl (l' := #[.val (.int p1), .val (.int (0 : Int32))]) rfl k) ?_
              refine own_go (fun t k => XS.iloadN X0.here hx rfl (hb hby d3_62) rfl  k) ?_
              subst hΦ
              exact own_retI X0 hx Bd.returns hlk (hb hby d3_63) e0 ⟨(by simp [own_len8, hc1, hc12, hc18, hc29, hc35, hc46]), N0, rfl⟩ (by decide) (by decide)
            · refine own_go (fun t k => XS.icmpNo X0.here hx rfl (hb hby d3_46) rfl (flt hc46).1 k) ?_
              refine own_go (fun t k => XS.iloadN X0.here hx rfl (hb hby d3_49) rfl  k) ?_
              show own_Run p e below Φ (s₁.setTop (mkF m 50 #[.val (.int p1), .unset] [(.int p1)]))
              refine own_go (fun t k => XS.bipush X0.here hx rfl (hb hby d3_50) k) ?_
              by_cases hc52 : (-12 : Int32) < p1
              · refine own_go (fun t k => XS.icmpYes X0.here hx rfl (pc0 := 52) (pc' := 60) rfl (hb hby d3_52) rfl (tlt hc52).2.2.1 (by decide) (by decide) k) ?_
                refine own_go (fun t k => XS.iconst X0.here hx rfl (hb hby d3_60) k) ?_
                refine own_go (fun t k => XS.istoreN X0.here hx rfl (hb hby d3_61) rfl (l' := #[.val (.int p1), .val (.int (0 : Int32))]) rfl k) ?_
                refine own_go (fun t k => XS.iloadN X0.here hx rfl (hb hby d3_62) rfl  k) ?_
                show own_Run p e below Φ (s₁.setTop (mkF m 63 #[.val (.int p1), .val (.int (0 : Int32))] [(.int (0 : Int32))]))
                subst hΦ
                exact own_retI X0 hx Bd.returns hlk (hb hby d3_63) e0 ⟨(by simp [own_len8, hc1, hc12, hc18, hc29, hc35, hc46, hc52]), N0, rfl⟩ (by decide) (by decide)
              · refine own_go (fun t k => XS.icmpNo X0.here hx rfl (hb hby d3_52) rfl (flt hc52).2.2.1 k) ?_
                refine own_go (fun t k => XS.iconst X0.here hx rfl (hb hby d3_55) k) ?_
                refine own_go (fun t k => XS.istoreN X0.here hx rfl (hb hby d3_56) rfl (l' := #[.val (.int p1), .val (.int (4 : Int32))]) rfl k) ?_
                refine own_go (fun t k => XS.goto X0.here hx rfl (pc0 := 57) (pc' := 62) rfl (hb hby d3_57) (by decide) (by decide) k) ?_
                refine own_go (fun t k => XS.iloadN X0.here hx rfl (hb hby d3_62) rfl  k) ?_
                show own_Run p e below Φ (s₁.setTop (mkF m 63 #[.val (.int p1), .val (.int (4 : Int32))] [(.int (4 : Int32))]))
                subst hΦ
                exact own_retI X0 hx Bd.returns hlk (hb hby d3_63) e0 ⟨(by simp [own_len8, hc1, hc12, hc18, hc29, hc35, hc46, hc52]), N0, rfl⟩ (by decide) (by decide)
          · refine own_go (fun t k => XS.icmpNo X0.here hx rfl (hb hby d3_35) rfl (flt hc35).2.2.1 k) ?_
            refine own_go (fun t k => XS.iconst X0.here hx rfl (hb hby d3_38) k) ?_
            refine own_go (fun t k => XS.istoreN X0.here hx rfl (hb hby d3_39) rfl (l' := #[.val (.int p1), .val (.int (3 : Int32))]) rfl k) ?_
            refine own_go (fun t k => XS.goto X0.here hx rfl (pc0 := 40) (pc' := 62) rfl (hb hby d3_40) (by decide) (by decide) k) ?_
            refine own_go (fun t k => XS.iloadN X0.here hx rfl (hb hby d3_62) rfl  k) ?_
            show own_Run p e below Φ (s₁.setTop (mkF m 63 #[.val (.int p1), .val (.int (3 : Int32))] [(.int (3 : Int32))]))
            subst hΦ
            exact own_retI X0 hx Bd.returns hlk (hb hby d3_63) e0 ⟨(by simp [own_len8, hc1, hc12, hc18, hc29, hc35]), N0, rfl⟩ (by decide) (by decide)
      · refine own_go (fun t k => XS.icmpNo X0.here hx rfl (hb hby d3_18) rfl (flt hc18).2.2.1 k) ?_
        refine own_go (fun t k => XS.iconst X0.here hx rfl (hb hby d3_21) k) ?_
        refine own_go (fun t k => XS.istoreN X0.here hx rfl (hb hby d3_22) rfl (l' := #[.val (.int p1), .val (.int (2 : Int32))]) rfl k) ?_
        refine own_go (fun t k => XS.goto X0.here hx rfl (pc0 := 23) (pc' := 62) rfl (hb hby d3_23) (by decide) (by decide) k) ?_
        refine own_go (fun t k => XS.iloadN X0.here hx rfl (hb hby d3_62) rfl  k) ?_
        show own_Run p e below Φ (s₁.setTop (mkF m 63 #[.val (.int p1), .val (.int (2 : Int32))] [(.int (2 : Int32))]))
        subst hΦ
        exact own_retI X0 hx Bd.returns hlk (hb hby d3_63) e0 ⟨(by simp [own_len8, hc1, hc12, hc18]), N0, rfl⟩ (by decide) (by decide)
  · refine own_go (fun t k => XS.ifNo X0.here hx rfl (hb hby d3_1) rfl ((if0 _ _).trans (flt hc1).1) k) ?_
    refine own_go (fun t k => XS.iconst X0.here hx rfl (hb hby d3_4) k) ?_
    refine own_go (fun t k => XS.istoreN X0.here hx rfl (hb hby d3_5) rfl (l' := #[.val (.int p1), .val (.int (1 : Int32))]) rfl k) ?_
    refine own_go (fun t k => XS.goto X0.here hx rfl (pc0 := 6) (pc' := 62) rfl (hb hby d3_6) (by decide) (by decide) k) ?_
    refine own_go (fun t k => XS.iloadN X0.here hx rfl (hb hby d3_62) rfl  k) ?_
    show own_Run p e below Φ (s₁.setTop (mkF m 63 #[.val (.int p1), .val (.int (1 : Int32))] [(.int (1 : Int32))]))
    subst hΦ
    exact own_retI X0 hx Bd.returns hlk (hb hby d3_63) e0 ⟨(by simp [own_len8, hc1]), N0, rfl⟩ (by decide) (by decide)
theorem d2_0 : decode method_3_code 0 = .ok (.iload_n 1, 1) := by decide +kernel
theorem d2_1 : decode method_3_code 1 = .ok (.iload_n 2, 1) := by decide +kernel
theorem d2_2 : decode method_3_code 2 = .ok (.if_icmp .lt 10, 3) := by decide +kernel
theorem d2_5 : decode method_3_code 5 = .ok (.iload_n 1, 1) := by decide +kernel
theorem d2_6 : decode method_3_code 6 = .ok (.iload_n 2, 1) := by decide +kernel
theorem d2_7 : decode method_3_code 7 = .ok (.iload_n 3, 1) := by decide +kernel
theorem d2_8 : decode method_3_code 8 = .ok (.iadd, 1) := by decide +kernel
theorem d2_9 : decode method_3_code 9 = .ok (.if_icmp .lt 11, 3) := by decide +kernel
theorem d2_12 : decode method_3_code 12 = .ok (.aload_n 0, 1) := by decide +kernel
theorem d2_13 : decode method_3_code 13 = .ok (.iload_n 1, 1) := by decide +kernel
theorem d2_14 : decode method_3_code 14 = .ok (.baload, 1) := by decide +kernel
theorem d2_15 : decode method_3_code 15 = .ok (.iload 4, 2) := by decide +kernel
theorem d2_17 : decode method_3_code 17 = .ok (.if_icmp .ne 7, 3) := by decide +kernel
theorem d2_20 : decode method_3_code 20 = .ok (.iconst 1, 1) := by decide +kernel
theorem d2_21 : decode method_3_code 21 = .ok (.goto 4, 3) := by decide +kernel
theorem d2_25 : decode method_3_code 25 = .ok (.ireturn, 1) := by decide +kernel
theorem pn_c0 : plainName "com/example/templum/templum/validation/Utf8EncodePinLaw" = true := by first | (simp [plainName, overriddenIn]; done) | decide +kernel
theorem ef_2_RIIII (m : MethodId) (x0 : Addr) (x1 : Int32) (x2 : Int32) (x3 : Int32) (x4 : Int32) : entryFrame m #[(.ref x0), (.int x1), (.int x2), (.int x3), (.int x4)] 5 = mkF m 0 #[.val (.ref x0), .val (.int x1), .val (.int x2), .val (.int x3), .val (.int x4)] [] := by first | (simp [entryFrame, mkF, argsToLocals, Value.category]; done) | rfl
set_option maxRecDepth 65536 in
set_option maxHeartbeats 40000000 in
theorem rm_kept (l : Launch) (Z : State) (a0 : Array Value) (hw : ∀ d ∈ tables_1, d.before a0 Z = true) (a1 : Addr) (p2 : Int32) (p3 : Int32) (p4 : Int32) (p5 : Int32) (k1 : ClassId) (us : List Value) (d1 : Int32) (h0 : Heap) (n0 : Nat) (H1 : Arv Z h0 a1 k1 .byte (8 : Int32) us (.int d1)) (hb_ : ¬ p2 < 0 ∧ p2 < (8 : Int32)) (hk_ : (p2 < p3 ∨ ¬ p2 < p3 + p4) → us.getD p2.toNatClampNeg (.int d1) = .int p5) :
    own_Met l Z (⟨"com/example/templum/templum/validation/Utf8EncodePinLaw", "kept", "([BIIIB)Z"⟩ : MethodName) method_3_code 5 (some .boolean) ({ frames := 0, cells := 0, slots := 0, locals := 0 } : Room) #[(.ref a1), (.int p2), (.int p3), (.int p4), (.int p5)] h0 (fun v h L => v = some (.int (1 : Int32)) ∧ Fr n0 L ∧ h = h0) := by
  intro ws
  refine MetFree.of_bodySF (plainFor_of_name pn_c0) hisR ?_
  intro p e s m args below meth c s₁ Bd hml0 hP hK
  obtain ⟨rfl, hZ, hh⟩ := hP
  have hx := Bd.exec
  have hby := Bd.bytes
  have hml : c.maxLocals = 5 := hml0
  have hown : s.vm.findClass "com/example/templum/templum/validation/Utf8EncodePinLaw" = some m.cls := findClass_of_methodNamed Bd.named
  have hnm := (name_of_methodNamed Bd.named Bd.method).1
  have hlk : meth.locks = false := Bd.notSynchronized
  have X0 : Stand p l e ({ frames := 0, cells := 0, slots := 0, locals := 0 } : Room) s m #[(.ref a1), (.int p2), (.int p3), (.int p4), (.int p5)] below meth c s₁ [] 0 0 := Stand.of_body Bd
  have e0 : s₁.heap = h0 := by rw [← hh, Bd.state]; rfl
  have N0 := Fr.nil n0
  refine own_body (Q := fun v h L => v = some (.int (1 : Int32)) ∧ Fr n0 L ∧ h = h0) ?_
  generalize hΦ : own_Fin s below _ _ _ = Φ
  refine own_cast (ef_2_RIIII m a1 p2 p3 p4 p5) ?_
  show own_Run p e below Φ (s₁.setTop (mkF m 0 #[.val (.ref a1), .val (.int p2), .val (.int p3), .val (.int p4), .val (.int p5)] []))
  refine own_go (fun t k => XS.iloadN X0.here hx rfl (hb hby d2_0) rfl  k) ?_
  refine own_go (fun t k => XS.iloadN X0.here hx rfl (hb hby d2_1) rfl  k) ?_
  by_cases hc2 : p2 < p3
  · refine own_go (fun t k => XS.icmpYes X0.here hx rfl (pc0 := 2) (pc' := 12) rfl (hb hby d2_2) rfl (tlt hc2).1 (by decide) (by decide) k) ?_
    refine own_go (fun t k => XS.aloadN X0.here hx rfl (hb hby d2_12) rfl rfl  k) ?_
    refine own_go (fun t k => XS.iloadN X0.here hx rfl (hb hby d2_13) rfl  k) ?_
    show own_Run p e below Φ (s₁.setTop (mkF m 14 #[.val (.ref a1), .val (.int p2), .val (.int p3), .val (.int p4), .val (.int p5)] [(.int p2), (.ref a1)]))
    refine own_baload X0 hx hZ e0 H1 (j := p2) (v := (.int p5)) hb_ (hk_ (Or.inl hc2)) (g := (mkF m 14 #[.val (.ref a1), .val (.int p2), .val (.int p3), .val (.int p4), .val (.int p5)] [(.int p2), (.ref a1)])) rfl rfl (hb hby d2_14) ?_
    refine own_go (fun t k => XS.iload X0.here hx rfl (hb hby d2_15) rfl  k) ?_
    refine own_go (fun t k => XS.icmpNo X0.here hx rfl (hb hby d2_17) rfl (teq (rfl : p5 = p5)).2 k) ?_
    refine own_go (fun t k => XS.iconst X0.here hx rfl (hb hby d2_20) k) ?_
    refine own_go (fun t k => XS.goto X0.here hx rfl (pc0 := 21) (pc' := 25) rfl (hb hby d2_21) (by decide) (by decide) k) ?_
    show own_Run p e below Φ (s₁.setTop (mkF m 25 #[.val (.ref a1), .val (.int p2), .val (.int p3), .val (.int p4), .val (.int p5)] [(.int (1 : Int32))]))
    subst hΦ
    exact own_retN X0 hx (t := .boolean) Bd.returns (by simp) hlk (hb hby d2_25) e0 ⟨rfl, N0, rfl⟩ (by decide) (by decide)
  · refine own_go (fun t k => XS.icmpNo X0.here hx rfl (hb hby d2_2) rfl (flt hc2).1 k) ?_
    refine own_go (fun t k => XS.iloadN X0.here hx rfl (hb hby d2_5) rfl  k) ?_
    refine own_go (fun t k => XS.iloadN X0.here hx rfl (hb hby d2_6) rfl  k) ?_
    refine own_go (fun t k => XS.iloadN X0.here hx rfl (hb hby d2_7) rfl  k) ?_
    refine own_go (fun t k => XS.iadd X0.here hx rfl (hb hby d2_8) rfl k) ?_
    show own_Run p e below Φ (s₁.setTop (mkF m 9 #[.val (.ref a1), .val (.int p2), .val (.int p3), .val (.int p4), .val (.int p5)] [(.int (p3 + p4)), (.int p2)]))
    by_cases hc9 : p2 < (p3 + p4)
    · refine own_go (fun t k => XS.icmpYes X0.here hx rfl (pc0 := 9) (pc' := 20) rfl (hb hby d2_9) rfl (tlt hc9).1 (by decide) (by decide) k) ?_
      refine own_go (fun t k => XS.iconst X0.here hx rfl (hb hby d2_20) k) ?_
      refine own_go (fun t k => XS.goto X0.here hx rfl (pc0 := 21) (pc' := 25) rfl (hb hby d2_21) (by decide) (by decide) k) ?_
      subst hΦ
      exact own_retN X0 hx (t := .boolean) Bd.returns (by simp) hlk (hb hby d2_25) e0 ⟨rfl, N0, rfl⟩ (by decide) (by decide)
    · refine own_go (fun t k => XS.icmpNo X0.here hx rfl (hb hby d2_9) rfl (flt hc9).1 k) ?_
      refine own_go (fun t k => XS.aloadN X0.here hx rfl (hb hby d2_12) rfl rfl  k) ?_
      show own_Run p e below Φ (s₁.setTop (mkF m 13 #[.val (.ref a1), .val (.int p2), .val (.int p3), .val (.int p4), .val (.int p5)] [(.ref a1)]))
      refine own_go (fun t k => XS.iloadN X0.here hx rfl (hb hby d2_13) rfl  k) ?_
      refine own_baload X0 hx hZ e0 H1 (j := p2) (v := (.int p5)) hb_ (hk_ (Or.inr hc9)) (g := (mkF m 14 #[.val (.ref a1), .val (.int p2), .val (.int p3), .val (.int p4), .val (.int p5)] [(.int p2), (.ref a1)])) rfl rfl (hb hby d2_14) ?_
      refine own_go (fun t k => XS.iload X0.here hx rfl (hb hby d2_15) rfl  k) ?_
      refine own_go (fun t k => XS.icmpNo X0.here hx rfl (hb hby d2_17) rfl (teq (rfl : p5 = p5)).2 k) ?_
      refine own_go (fun t k => XS.iconst X0.here hx rfl (hb hby d2_20) k) ?_
      show own_Run p e below Φ (s₁.setTop (mkF m 21 #[.val (.ref a1), .val (.int p2), .val (.int p3), .val (.int p4), .val (.int p5)] [(.int (1 : Int32))]))
      refine own_go (fun t k => XS.goto X0.here hx rfl (pc0 := 21) (pc' := 25) rfl (hb hby d2_21) (by decide) (by decide) k) ?_
      subst hΦ
      exact own_retN X0 hx (t := .boolean) Bd.returns (by simp) hlk (hb hby d2_25) e0 ⟨rfl, N0, rfl⟩ (by decide) (by decide)
theorem d1_0 : decode prog_118_method_4_code 0 = .ok (.iload_n 0, 1) := by decide +kernel
theorem d1_1 : decode prog_118_method_4_code 1 = .ok (.sipush 128, 3) := by decide +kernel
theorem d1_4 : decode prog_118_method_4_code 4 = .ok (.if_icmp .ge 13, 3) := by decide +kernel
theorem d1_7 : decode prog_118_method_4_code 7 = .ok (.aload_n 1, 1) := by decide +kernel
theorem d1_8 : decode prog_118_method_4_code 8 = .ok (.iload_n 2, 1) := by decide +kernel
theorem d1_9 : decode prog_118_method_4_code 9 = .ok (.iload_n 0, 1) := by decide +kernel
theorem d1_10 : decode prog_118_method_4_code 10 = .ok (.i2b, 1) := by decide +kernel
theorem d1_11 : decode prog_118_method_4_code 11 = .ok (.bastore, 1) := by decide +kernel
theorem d1_12 : decode prog_118_method_4_code 12 = .ok (.iconst 1, 1) := by decide +kernel
theorem d1_13 : decode prog_118_method_4_code 13 = .ok (.istore_n 3, 1) := by decide +kernel
theorem d1_14 : decode prog_118_method_4_code 14 = .ok (.goto 157, 3) := by decide +kernel
theorem d1_171 : decode prog_118_method_4_code 171 = .ok (.iload_n 3, 1) := by decide +kernel
theorem d1_172 : decode prog_118_method_4_code 172 = .ok (.ireturn, 1) := by decide +kernel
theorem ef_1_IRI (m : MethodId) (x0 : Int32) (x1 : Addr) (x2 : Int32) : entryFrame m #[(.int x0), (.ref x1), (.int x2)] 4 = mkF m 0 #[.val (.int x0), .val (.ref x1), .val (.int x2), .unset] [] := by first | (simp [entryFrame, mkF, argsToLocals, Value.category]; done) | rfl
set_option maxRecDepth 65536 in
set_option maxHeartbeats 40000000 in
theorem rm_enc1 (l : Launch) (Z : State) (a0 : Array Value) (hw : ∀ d ∈ tables_1, d.before a0 Z = true) (p1 : Int32) (a2 : Addr) (p3 : Int32) (k2 : ClassId) (fb : Int32) (d2 : Int32) (h0 : Heap) (n0 : Nat) (H1 : Arv Z h0 a2 k2 .byte (8 : Int32) (own_z fb) (.int d2)) (H2 : n0 ≤ a2) (hoff : own_O p3) (hlo : 0 ≤ p1.toInt) (hhi : p1.toInt < 128) :
    own_Met l Z (⟨"com/example/templum/templum/validation/Utf8", "encode", "(I[BI)I"⟩ : MethodName) prog_118_method_4_code 4 (some .int) ({ frames := 0, cells := 0, slots := 0, locals := 0 } : Room) #[(.int p1), (.ref a2), (.int p3)] h0 (fun v h L => v = some (.int (1 : Int32)) ∧ Fr n0 L ∧ Keep h0 h [a2] ∧ Arv Z h a2 k2 .byte (8 : Int32) (own_v1 fb p3 (p1.toInt8.toInt32)) (.int d2)) := by
  intro ws
  refine MetFree.of_bodySF (plainFor_of_name pn_c1) hisR ?_
  intro p e s m args below meth c s₁ Bd hml0 hP hK
  obtain ⟨rfl, hZ, hh⟩ := hP
  have hx := Bd.exec
  have hby := Bd.bytes
  have hml : c.maxLocals = 4 := hml0
  have hown : s.vm.findClass "com/example/templum/templum/validation/Utf8" = some m.cls := findClass_of_methodNamed Bd.named
  have hnm := (name_of_methodNamed Bd.named Bd.method).1
  have hlk : meth.locks = false := Bd.notSynchronized
  have X0 : Stand p l e ({ frames := 0, cells := 0, slots := 0, locals := 0 } : Room) s m #[(.int p1), (.ref a2), (.int p3)] below meth c s₁ [] 0 0 := Stand.of_body Bd
  have e0 : s₁.heap = h0 := by rw [← hh, Bd.state]; rfl
  have N0 := Fr.nil n0
  refine own_body (Q := fun v h L => v = some (.int (1 : Int32)) ∧ Fr n0 L ∧ Keep h0 h [a2] ∧ Arv Z h a2 k2 .byte (8 : Int32) (own_v1 fb p3 (p1.toInt8.toInt32)) (.int d2)) ?_
  generalize hΦ : own_Fin s below _ _ _ = Φ
  refine own_cast (ef_1_IRI m p1 a2 p3) ?_
  have K0 := Keep.refl h0 [a2]
  show own_Run p e below Φ (s₁.setTop (mkF m 0 #[.val (.int p1), .val (.ref a2), .val (.int p3), .unset] []))
  refine own_go (fun t k => XS.iloadN X0.here hx rfl (hb hby d1_0) rfl  k) ?_
  refine own_go (fun t k => XS.sipush X0.here hx rfl (hb hby d1_1) k) ?_
  have hc4 : p1 < (128 : Int32) := (by rw [Int32.lt_iff_toInt_lt]; simp only [Int32.reduceToInt]; omega)
  refine own_go (fun t k => XS.icmpNo X0.here hx rfl (hb hby d1_4) rfl (tlt hc4).2.1 k) ?_
  refine own_go (fun t k => XS.aloadN X0.here hx rfl (hb hby d1_7) rfl rfl  k) ?_
  refine own_go (fun t k => XS.iloadN X0.here hx rfl (hb hby d1_8) rfl  k) ?_
  show own_Run p e below Φ (s₁.setTop (mkF m 9 #[.val (.int p1), .val (.ref a2), .val (.int p3), .unset] [(.int p3), (.ref a2)]))
  refine own_go (fun t k => XS.iloadN X0.here hx rfl (hb hby d1_9) rfl  k) ?_
  refine own_go (fun t k => XS.i2b X0.here hx rfl (hb hby d1_10) rfl k) ?_
  refine own_bastore X0 hx hZ e0 H1 (j := p3) (own_o0 hoff) p3.toNatClampNeg rfl (Nat.lt_of_lt_of_eq (own_i0 hoff) (own_l0 _).symm) (g := (mkF m 11 #[.val (.int p1), .val (.ref a2), .val (.int p3), .unset] [(.int (p1.toInt8.toInt32)), (.int p3), (.ref a2)])) rfl rfl (hb hby d1_11) (fun T1 h1 X1 e1 W1 V1 => ?_)
  replace V1 : Arv Z h1 a2 k2 .byte (8 : Int32) (own_v1 fb p3 (p1.toInt8.toInt32)) (.int d2) := (by rw [own_b8] at V1; exact V1)
  have N1 := Fr.snoc X1 N0 H2
  refine own_go (fun t k => XS.iconst X1.here hx rfl (hb hby d1_12) k) ?_
  refine own_go (fun t k => XS.istoreN X1.here hx rfl (hb hby d1_13) rfl (l' := #[.val (.int p1), .val (.ref a2), .val (.int p3), .val (.int (1 : Int32))]) rfl k) ?_
  show own_Run p e below Φ (T1.setTop (mkF m 14 #[.val (.int p1), .val (.ref a2), .val (.int p3), .val (.int (1 : Int32))] []))
  refine own_go (fun t k => XS.goto X1.here hx rfl (pc0 := 14) (pc' := 171) rfl (hb hby d1_14) (by decide) (by decide) k) ?_
  refine own_go (fun t k => XS.iloadN X1.here hx rfl (hb hby d1_171) rfl  k) ?_
  have F2 : Keep h0 h1 [a2] := (K0.wr W1 (Or.inl (List.mem_of_getElem? (i := 0) rfl)))
  subst hΦ
  exact own_retI X1 hx Bd.returns hlk (hb hby d1_172) e1 ⟨rfl, N1, F2, V1⟩ (by decide) (by decide)
theorem d1_17 : decode prog_118_method_4_code 17 = .ok (.iload_n 0, 1) := by decide +kernel
theorem d1_18 : decode prog_118_method_4_code 18 = .ok (.sipush 2048, 3) := by decide +kernel
theorem d1_21 : decode prog_118_method_4_code 21 = .ok (.if_icmp .ge 34, 3) := by decide +kernel
theorem d1_24 : decode prog_118_method_4_code 24 = .ok (.aload_n 1, 1) := by decide +kernel
theorem d1_25 : decode prog_118_method_4_code 25 = .ok (.iload_n 2, 1) := by decide +kernel
theorem d1_26 : decode prog_118_method_4_code 26 = .ok (.sipush 192, 3) := by decide +kernel
theorem d1_29 : decode prog_118_method_4_code 29 = .ok (.iload_n 0, 1) := by decide +kernel
theorem d1_30 : decode prog_118_method_4_code 30 = .ok (.bipush 6, 2) := by decide +kernel
theorem d1_32 : decode prog_118_method_4_code 32 = .ok (.ishr, 1) := by decide +kernel
theorem d1_33 : decode prog_118_method_4_code 33 = .ok (.ior, 1) := by decide +kernel
theorem d1_34 : decode prog_118_method_4_code 34 = .ok (.i2b, 1) := by decide +kernel
theorem d1_35 : decode prog_118_method_4_code 35 = .ok (.bastore, 1) := by decide +kernel
theorem d1_36 : decode prog_118_method_4_code 36 = .ok (.aload_n 1, 1) := by decide +kernel
theorem d1_37 : decode prog_118_method_4_code 37 = .ok (.iload_n 2, 1) := by decide +kernel
theorem d1_38 : decode prog_118_method_4_code 38 = .ok (.iconst 1, 1) := by decide +kernel
theorem d1_39 : decode prog_118_method_4_code 39 = .ok (.iadd, 1) := by decide +kernel
theorem d1_40 : decode prog_118_method_4_code 40 = .ok (.sipush 128, 3) := by decide +kernel
theorem d1_43 : decode prog_118_method_4_code 43 = .ok (.iload_n 0, 1) := by decide +kernel
theorem d1_44 : decode prog_118_method_4_code 44 = .ok (.bipush 63, 2) := by decide +kernel
theorem d1_46 : decode prog_118_method_4_code 46 = .ok (.iand, 1) := by decide +kernel
theorem d1_47 : decode prog_118_method_4_code 47 = .ok (.ior, 1) := by decide +kernel
theorem d1_48 : decode prog_118_method_4_code 48 = .ok (.i2b, 1) := by decide +kernel
theorem d1_49 : decode prog_118_method_4_code 49 = .ok (.bastore, 1) := by decide +kernel
theorem d1_50 : decode prog_118_method_4_code 50 = .ok (.iconst 2, 1) := by decide +kernel
theorem d1_51 : decode prog_118_method_4_code 51 = .ok (.istore_n 3, 1) := by decide +kernel
theorem d1_52 : decode prog_118_method_4_code 52 = .ok (.goto 119, 3) := by decide +kernel
set_option maxRecDepth 65536 in
set_option maxHeartbeats 40000000 in
theorem rm_enc2 (l : Launch) (Z : State) (a0 : Array Value) (hw : ∀ d ∈ tables_1, d.before a0 Z = true) (p1 : Int32) (a2 : Addr) (p3 : Int32) (k2 : ClassId) (fb : Int32) (d2 : Int32) (h0 : Heap) (n0 : Nat) (H1 : Arv Z h0 a2 k2 .byte (8 : Int32) (own_z fb) (.int d2)) (H2 : n0 ≤ a2) (hoff : own_O p3) (hlo : 128 ≤ p1.toInt) (hhi : p1.toInt < 2048) :
    own_Met l Z (⟨"com/example/templum/templum/validation/Utf8", "encode", "(I[BI)I"⟩ : MethodName) prog_118_method_4_code 4 (some .int) ({ frames := 0, cells := 0, slots := 0, locals := 0 } : Room) #[(.int p1), (.ref a2), (.int p3)] h0 (fun v h L => v = some (.int (2 : Int32)) ∧ Fr n0 L ∧ Keep h0 h [a2] ∧ Arv Z h a2 k2 .byte (8 : Int32) (own_v2 fb p3 (((192 : Int32) ||| (p1 >>> ((6 : Int32) &&& 31))).toInt8.toInt32) (((128 : Int32) ||| (p1 &&& (63 : Int32))).toInt8.toInt32)) (.int d2)) := by
  intro ws
  refine MetFree.of_bodySF (plainFor_of_name pn_c1) hisR ?_
  intro p e s m args below meth c s₁ Bd hml0 hP hK
  obtain ⟨rfl, hZ, hh⟩ := hP
  have hx := Bd.exec
  have hby := Bd.bytes
  have hml : c.maxLocals = 4 := hml0
  have hown : s.vm.findClass "com/example/templum/templum/validation/Utf8" = some m.cls := findClass_of_methodNamed Bd.named
  have hnm := (name_of_methodNamed Bd.named Bd.method).1
  have hlk : meth.locks = false := Bd.notSynchronized
  have X0 : Stand p l e ({ frames := 0, cells := 0, slots := 0, locals := 0 } : Room) s m #[(.int p1), (.ref a2), (.int p3)] below meth c s₁ [] 0 0 := Stand.of_body Bd
  have e0 : s₁.heap = h0 := by rw [← hh, Bd.state]; rfl
  have N0 := Fr.nil n0
  refine own_body (Q := fun v h L => v = some (.int (2 : Int32)) ∧ Fr n0 L ∧ Keep h0 h [a2] ∧ Arv Z h a2 k2 .byte (8 : Int32) (own_v2 fb p3 (((192 : Int32) ||| (p1 >>> ((6 : Int32) &&& 31))).toInt8.toInt32) (((128 : Int32) ||| (p1 &&& (63 : Int32))).toInt8.toInt32)) (.int d2)) ?_
  generalize hΦ : own_Fin s below _ _ _ = Φ
  refine own_cast (ef_1_IRI m p1 a2 p3) ?_
  have K0 := Keep.refl h0 [a2]
  show own_Run p e below Φ (s₁.setTop (mkF m 0 #[.val (.int p1), .val (.ref a2), .val (.int p3), .unset] []))
  refine own_go (fun t k => XS.iloadN X0.here hx rfl (hb hby d1_0) rfl  k) ?_
  refine own_go (fun t k => XS.sipush X0.here hx rfl (hb hby d1_1) k) ?_
  have hc4 : ¬ (p1 < (128 : Int32)) := (by rw [Int32.lt_iff_toInt_lt]; simp only [Int32.reduceToInt]; omega)
  refine own_go (fun t k => XS.icmpYes X0.here hx rfl (pc0 := 4) (pc' := 17) rfl (hb hby d1_4) rfl (flt hc4).2.1 (by decide) (by decide) k) ?_
  refine own_go (fun t k => XS.iloadN X0.here hx rfl (hb hby d1_17) rfl  k) ?_
  refine own_go (fun t k => XS.sipush X0.here hx rfl (hb hby d1_18) k) ?_
  show own_Run p e below Φ (s₁.setTop (mkF m 21 #[.val (.int p1), .val (.ref a2), .val (.int p3), .unset] [(.int (2048 : Int32)), (.int p1)]))
  have hc21 : p1 < (2048 : Int32) := (by rw [Int32.lt_iff_toInt_lt]; simp only [Int32.reduceToInt]; omega)
  refine own_go (fun t k => XS.icmpNo X0.here hx rfl (hb hby d1_21) rfl (tlt hc21).2.1 k) ?_
  refine own_go (fun t k => XS.aloadN X0.here hx rfl (hb hby d1_24) rfl rfl  k) ?_
  refine own_go (fun t k => XS.iloadN X0.here hx rfl (hb hby d1_25) rfl  k) ?_
  refine own_go (fun t k => XS.sipush X0.here hx rfl (hb hby d1_26) k) ?_
  refine own_go (fun t k => XS.iloadN X0.here hx rfl (hb hby d1_29) rfl  k) ?_
  show own_Run p e below Φ (s₁.setTop (mkF m 30 #[.val (.int p1), .val (.ref a2), .val (.int p3), .unset] [(.int p1), (.int (192 : Int32)), (.int p3), (.ref a2)]))
  refine own_go (fun t k => XS.bipush X0.here hx rfl (hb hby d1_30) k) ?_
  refine own_go (fun t k => XS.ishr X0.here hx rfl (hb hby d1_32) rfl k) ?_
  refine own_go (fun t k => XS.ior X0.here hx rfl (hb hby d1_33) rfl k) ?_
  refine own_go (fun t k => XS.i2b X0.here hx rfl (hb hby d1_34) rfl k) ?_
  refine own_bastore X0 hx hZ e0 H1 (j := p3) (own_o0 hoff) p3.toNatClampNeg rfl (Nat.lt_of_lt_of_eq (own_i0 hoff) (own_l0 _).symm) (g := (mkF m 35 #[.val (.int p1), .val (.ref a2), .val (.int p3), .unset] [(.int (((192 : Int32) ||| (p1 >>> ((6 : Int32) &&& 31))).toInt8.toInt32)), (.int p3), (.ref a2)])) rfl rfl (hb hby d1_35) (fun T1 h1 X1 e1 W1 V1 => ?_)
  replace V1 : Arv Z h1 a2 k2 .byte (8 : Int32) (own_v1 fb p3 (((192 : Int32) ||| (p1 >>> ((6 : Int32) &&& 31))).toInt8.toInt32)) (.int d2) := (by rw [own_b8] at V1; exact V1)
  have N1 := Fr.snoc X1 N0 H2
  show own_Run p e below Φ (T1.setTop (mkF m 36 #[.val (.int p1), .val (.ref a2), .val (.int p3), .unset] []))
  refine own_go (fun t k => XS.aloadN X1.here hx rfl (hb hby d1_36) rfl rfl  k) ?_
  refine own_go (fun t k => XS.iloadN X1.here hx rfl (hb hby d1_37) rfl  k) ?_
  refine own_go (fun t k => XS.iconst X1.here hx rfl (hb hby d1_38) k) ?_
  refine own_go (fun t k => XS.iadd X1.here hx rfl (hb hby d1_39) rfl k) ?_
  refine own_go (fun t k => XS.sipush X1.here hx rfl (hb hby d1_40) k) ?_
  show own_Run p e below Φ (T1.setTop (mkF m 43 #[.val (.int p1), .val (.ref a2), .val (.int p3), .unset] [(.int (128 : Int32)), (.int (p3 + (1 : Int32))), (.ref a2)]))
  refine own_go (fun t k => XS.iloadN X1.here hx rfl (hb hby d1_43) rfl  k) ?_
  refine own_go (fun t k => XS.bipush X1.here hx rfl (hb hby d1_44) k) ?_
  refine own_go (fun t k => XS.iand X1.here hx rfl (hb hby d1_46) rfl k) ?_
  refine own_go (fun t k => XS.ior X1.here hx rfl (hb hby d1_47) rfl k) ?_
  refine own_go (fun t k => XS.i2b X1.here hx rfl (hb hby d1_48) rfl k) ?_
  show own_Run p e below Φ (T1.setTop (mkF m 49 #[.val (.int p1), .val (.ref a2), .val (.int p3), .unset] [(.int (((128 : Int32) ||| (p1 &&& (63 : Int32))).toInt8.toInt32)), (.int (p3 + (1 : Int32))), (.ref a2)]))
  refine own_bastore X1 hx hZ e1 V1 (j := (p3 + (1 : Int32))) (own_o1 hoff) (p3 + (1 : Int32)).toNatClampNeg rfl (Nat.lt_of_lt_of_eq (own_i1 hoff) (own_l1 _ _ _).symm) (g := (mkF m 49 #[.val (.int p1), .val (.ref a2), .val (.int p3), .unset] [(.int (((128 : Int32) ||| (p1 &&& (63 : Int32))).toInt8.toInt32)), (.int (p3 + (1 : Int32))), (.ref a2)])) rfl rfl (hb hby d1_49) (fun T2 h2 X2 e2 W2 V2 => ?_)
  replace V2 : Arv Z h2 a2 k2 .byte (8 : Int32) (own_v2 fb p3 (((192 : Int32) ||| (p1 >>> ((6 : Int32) &&& 31))).toInt8.toInt32) (((128 : Int32) ||| (p1 &&& (63 : Int32))).toInt8.toInt32)) (.int d2) := (by rw [own_b8] at V2; exact V2)
  have N2 := Fr.snoc X2 N1 H2
  refine own_go (fun t k => XS.iconst X2.here hx rfl (hb hby d1_50) k) ?_
  refine own_go (fun t k => XS.istoreN X2.here hx rfl (hb hby d1_51) rfl (l' := #[.val (.int p1), .val (.ref a2), .val (.int p3), .val (.int (2 : Int32))]) rfl k) ?_
  refine own_go (fun t k => XS.goto X2.here hx rfl (pc0 := 52) (pc' := 171) rfl (hb hby d1_52) (by decide) (by decide) k) ?_
  refine own_go (fun t k => XS.iloadN X2.here hx rfl (hb hby d1_171) rfl  k) ?_
  show own_Run p e below Φ (T2.setTop (mkF m 172 #[.val (.int p1), .val (.ref a2), .val (.int p3), .val (.int (2 : Int32))] [(.int (2 : Int32))]))
  have F3 : Keep h0 h2 [a2] := ((K0.wr W1 (Or.inl (List.mem_of_getElem? (i := 0) rfl))).wr W2 (Or.inl (List.mem_of_getElem? (i := 0) rfl)))
  subst hΦ
  exact own_retI X2 hx Bd.returns hlk (hb hby d1_172) e2 ⟨rfl, N2, F3, V2⟩ (by decide) (by decide)
theorem d1_55 : decode prog_118_method_4_code 55 = .ok (.iload_n 0, 1) := by decide +kernel
theorem d1_56 : decode prog_118_method_4_code 56 = .ok (.ldc 18, 2) := by decide +kernel
theorem d1_58 : decode prog_118_method_4_code 58 = .ok (.if_icmp .ge 51, 3) := by decide +kernel
theorem d1_61 : decode prog_118_method_4_code 61 = .ok (.aload_n 1, 1) := by decide +kernel
theorem d1_62 : decode prog_118_method_4_code 62 = .ok (.iload_n 2, 1) := by decide +kernel
theorem d1_63 : decode prog_118_method_4_code 63 = .ok (.sipush 224, 3) := by decide +kernel
theorem d1_66 : decode prog_118_method_4_code 66 = .ok (.iload_n 0, 1) := by decide +kernel
theorem d1_67 : decode prog_118_method_4_code 67 = .ok (.bipush 12, 2) := by decide +kernel
theorem d1_69 : decode prog_118_method_4_code 69 = .ok (.ishr, 1) := by decide +kernel
theorem d1_70 : decode prog_118_method_4_code 70 = .ok (.ior, 1) := by decide +kernel
theorem d1_71 : decode prog_118_method_4_code 71 = .ok (.i2b, 1) := by decide +kernel
theorem d1_72 : decode prog_118_method_4_code 72 = .ok (.bastore, 1) := by decide +kernel
theorem d1_73 : decode prog_118_method_4_code 73 = .ok (.aload_n 1, 1) := by decide +kernel
theorem d1_74 : decode prog_118_method_4_code 74 = .ok (.iload_n 2, 1) := by decide +kernel
theorem d1_75 : decode prog_118_method_4_code 75 = .ok (.iconst 1, 1) := by decide +kernel
theorem d1_76 : decode prog_118_method_4_code 76 = .ok (.iadd, 1) := by decide +kernel
theorem d1_77 : decode prog_118_method_4_code 77 = .ok (.sipush 128, 3) := by decide +kernel
theorem d1_80 : decode prog_118_method_4_code 80 = .ok (.iload_n 0, 1) := by decide +kernel
theorem d1_81 : decode prog_118_method_4_code 81 = .ok (.bipush 6, 2) := by decide +kernel
theorem d1_83 : decode prog_118_method_4_code 83 = .ok (.ishr, 1) := by decide +kernel
theorem d1_84 : decode prog_118_method_4_code 84 = .ok (.bipush 63, 2) := by decide +kernel
theorem d1_86 : decode prog_118_method_4_code 86 = .ok (.iand, 1) := by decide +kernel
theorem d1_87 : decode prog_118_method_4_code 87 = .ok (.ior, 1) := by decide +kernel
theorem d1_88 : decode prog_118_method_4_code 88 = .ok (.i2b, 1) := by decide +kernel
theorem d1_89 : decode prog_118_method_4_code 89 = .ok (.bastore, 1) := by decide +kernel
theorem d1_90 : decode prog_118_method_4_code 90 = .ok (.aload_n 1, 1) := by decide +kernel
theorem d1_91 : decode prog_118_method_4_code 91 = .ok (.iload_n 2, 1) := by decide +kernel
theorem d1_92 : decode prog_118_method_4_code 92 = .ok (.iconst 2, 1) := by decide +kernel
theorem d1_93 : decode prog_118_method_4_code 93 = .ok (.iadd, 1) := by decide +kernel
theorem d1_94 : decode prog_118_method_4_code 94 = .ok (.sipush 128, 3) := by decide +kernel
theorem d1_97 : decode prog_118_method_4_code 97 = .ok (.iload_n 0, 1) := by decide +kernel
theorem d1_98 : decode prog_118_method_4_code 98 = .ok (.bipush 63, 2) := by decide +kernel
theorem d1_100 : decode prog_118_method_4_code 100 = .ok (.iand, 1) := by decide +kernel
theorem d1_101 : decode prog_118_method_4_code 101 = .ok (.ior, 1) := by decide +kernel
theorem d1_102 : decode prog_118_method_4_code 102 = .ok (.i2b, 1) := by decide +kernel
theorem d1_103 : decode prog_118_method_4_code 103 = .ok (.bastore, 1) := by decide +kernel
theorem d1_104 : decode prog_118_method_4_code 104 = .ok (.iconst 3, 1) := by decide +kernel
theorem d1_105 : decode prog_118_method_4_code 105 = .ok (.istore_n 3, 1) := by decide +kernel
theorem d1_106 : decode prog_118_method_4_code 106 = .ok (.goto 65, 3) := by decide +kernel
set_option maxRecDepth 65536 in
set_option maxHeartbeats 40000000 in
theorem rm_enc3 (l : Launch) (Z : State) (a0 : Array Value) (hw : ∀ d ∈ tables_1, d.before a0 Z = true) (p1 : Int32) (a2 : Addr) (p3 : Int32) (k2 : ClassId) (fb : Int32) (d2 : Int32) (h0 : Heap) (n0 : Nat) (H1 : Arv Z h0 a2 k2 .byte (8 : Int32) (own_z fb) (.int d2)) (H2 : n0 ≤ a2) (hoff : own_O p3) (hlo : 2048 ≤ p1.toInt) (hhi : p1.toInt < 65536) :
    own_Met l Z (⟨"com/example/templum/templum/validation/Utf8", "encode", "(I[BI)I"⟩ : MethodName) prog_118_method_4_code 4 (some .int) ({ frames := 0, cells := 0, slots := 0, locals := 0 } : Room) #[(.int p1), (.ref a2), (.int p3)] h0 (fun v h L => v = some (.int (3 : Int32)) ∧ Fr n0 L ∧ Keep h0 h [a2] ∧ Arv Z h a2 k2 .byte (8 : Int32) (own_v3 fb p3 (((224 : Int32) ||| (p1 >>> ((12 : Int32) &&& 31))).toInt8.toInt32) (((128 : Int32) ||| ((p1 >>> ((6 : Int32) &&& 31)) &&& (63 : Int32))).toInt8.toInt32) (((128 : Int32) ||| (p1 &&& (63 : Int32))).toInt8.toInt32)) (.int d2)) := by
  intro ws
  refine MetFree.of_bodySF (plainFor_of_name pn_c1) hisR ?_
  intro p e s m args below meth c s₁ Bd hml0 hP hK
  obtain ⟨rfl, hZ, hh⟩ := hP
  have hx := Bd.exec
  have hby := Bd.bytes
  have hml : c.maxLocals = 4 := hml0
  have hown : s.vm.findClass "com/example/templum/templum/validation/Utf8" = some m.cls := findClass_of_methodNamed Bd.named
  have hnm := (name_of_methodNamed Bd.named Bd.method).1
  have hlk : meth.locks = false := Bd.notSynchronized
  have X0 : Stand p l e ({ frames := 0, cells := 0, slots := 0, locals := 0 } : Room) s m #[(.int p1), (.ref a2), (.int p3)] below meth c s₁ [] 0 0 := Stand.of_body Bd
  have e0 : s₁.heap = h0 := by rw [← hh, Bd.state]; rfl
  have N0 := Fr.nil n0
  refine own_body (Q := fun v h L => v = some (.int (3 : Int32)) ∧ Fr n0 L ∧ Keep h0 h [a2] ∧ Arv Z h a2 k2 .byte (8 : Int32) (own_v3 fb p3 (((224 : Int32) ||| (p1 >>> ((12 : Int32) &&& 31))).toInt8.toInt32) (((128 : Int32) ||| ((p1 >>> ((6 : Int32) &&& 31)) &&& (63 : Int32))).toInt8.toInt32) (((128 : Int32) ||| (p1 &&& (63 : Int32))).toInt8.toInt32)) (.int d2)) ?_
  generalize hΦ : own_Fin s below _ _ _ = Φ
  refine own_cast (ef_1_IRI m p1 a2 p3) ?_
  have K0 := Keep.refl h0 [a2]
  show own_Run p e below Φ (s₁.setTop (mkF m 0 #[.val (.int p1), .val (.ref a2), .val (.int p3), .unset] []))
  refine own_go (fun t k => XS.iloadN X0.here hx rfl (hb hby d1_0) rfl  k) ?_
  refine own_go (fun t k => XS.sipush X0.here hx rfl (hb hby d1_1) k) ?_
  have hc4 : ¬ (p1 < (128 : Int32)) := (by rw [Int32.lt_iff_toInt_lt]; simp only [Int32.reduceToInt]; omega)
  refine own_go (fun t k => XS.icmpYes X0.here hx rfl (pc0 := 4) (pc' := 17) rfl (hb hby d1_4) rfl (flt hc4).2.1 (by decide) (by decide) k) ?_
  refine own_go (fun t k => XS.iloadN X0.here hx rfl (hb hby d1_17) rfl  k) ?_
  refine own_go (fun t k => XS.sipush X0.here hx rfl (hb hby d1_18) k) ?_
  show own_Run p e below Φ (s₁.setTop (mkF m 21 #[.val (.int p1), .val (.ref a2), .val (.int p3), .unset] [(.int (2048 : Int32)), (.int p1)]))
  have hc21 : ¬ (p1 < (2048 : Int32)) := (by rw [Int32.lt_iff_toInt_lt]; simp only [Int32.reduceToInt]; omega)
  refine own_go (fun t k => XS.icmpYes X0.here hx rfl (pc0 := 21) (pc' := 55) rfl (hb hby d1_21) rfl (flt hc21).2.1 (by decide) (by decide) k) ?_
  refine own_go (fun t k => XS.iloadN X0.here hx rfl (hb hby d1_55) rfl  k) ?_
  refine own_go (X0.ldcInt hx hown (mvT hZ (hw _ (List.mem_of_getElem? (i := 15) rfl))) (g := (mkF m 56 #[.val (.int p1), .val (.ref a2), .val (.int p3), .unset] [(.int p1)])) rfl (hb hby d1_56)) ?_
  have hc58 : p1 < (65536 : Int32) := (by rw [Int32.lt_iff_toInt_lt]; simp only [Int32.reduceToInt]; omega)
  refine own_go (fun t k => XS.icmpNo X0.here hx rfl (hb hby d1_58) rfl (tlt hc58).2.1 k) ?_
  refine own_go (fun t k => XS.aloadN X0.here hx rfl (hb hby d1_61) rfl rfl  k) ?_
  show own_Run p e below Φ (s₁.setTop (mkF m 62 #[.val (.int p1), .val (.ref a2), .val (.int p3), .unset] [(.ref a2)]))
  refine own_go (fun t k => XS.iloadN X0.here hx rfl (hb hby d1_62) rfl  k) ?_
  refine own_go (fun t k => XS.sipush X0.here hx rfl (hb hby d1_63) k) ?_
  refine own_go (fun t k => XS.iloadN X0.here hx rfl (hb hby d1_66) rfl  k) ?_
  refine own_go (fun t k => XS.bipush X0.here hx rfl (hb hby d1_67) k) ?_
  refine own_go (fun t k => XS.ishr X0.here hx rfl (hb hby d1_69) rfl k) ?_
  show own_Run p e below Φ (s₁.setTop (mkF m 70 #[.val (.int p1), .val (.ref a2), .val (.int p3), .unset] [(.int (p1 >>> ((12 : Int32) &&& 31))), (.int (224 : Int32)), (.int p3), (.ref a2)]))
  refine own_go (fun t k => XS.ior X0.here hx rfl (hb hby d1_70) rfl k) ?_
  refine own_go (fun t k => XS.i2b X0.here hx rfl (hb hby d1_71) rfl k) ?_
  refine own_bastore X0 hx hZ e0 H1 (j := p3) (own_o0 hoff) p3.toNatClampNeg rfl (Nat.lt_of_lt_of_eq (own_i0 hoff) (own_l0 _).symm) (g := (mkF m 72 #[.val (.int p1), .val (.ref a2), .val (.int p3), .unset] [(.int (((224 : Int32) ||| (p1 >>> ((12 : Int32) &&& 31))).toInt8.toInt32)), (.int p3), (.ref a2)])) rfl rfl (hb hby d1_72) (fun T1 h1 X1 e1 W1 V1 => ?_)
  replace V1 : Arv Z h1 a2 k2 .byte (8 : Int32) (own_v1 fb p3 (((224 : Int32) ||| (p1 >>> ((12 : Int32) &&& 31))).toInt8.toInt32)) (.int d2) := (by rw [own_b8] at V1; exact V1)
  have N1 := Fr.snoc X1 N0 H2
  refine own_go (fun t k => XS.aloadN X1.here hx rfl (hb hby d1_73) rfl rfl  k) ?_
  refine own_go (fun t k => XS.iloadN X1.here hx rfl (hb hby d1_74) rfl  k) ?_
  show own_Run p e below Φ (T1.setTop (mkF m 75 #[.val (.int p1), .val (.ref a2), .val (.int p3), .unset] [(.int p3), (.ref a2)]))
  refine own_go (fun t k => XS.iconst X1.here hx rfl (hb hby d1_75) k) ?_
  refine own_go (fun t k => XS.iadd X1.here hx rfl (hb hby d1_76) rfl k) ?_
  refine own_go (fun t k => XS.sipush X1.here hx rfl (hb hby d1_77) k) ?_
  refine own_go (fun t k => XS.iloadN X1.here hx rfl (hb hby d1_80) rfl  k) ?_
  refine own_go (fun t k => XS.bipush X1.here hx rfl (hb hby d1_81) k) ?_
  show own_Run p e below Φ (T1.setTop (mkF m 83 #[.val (.int p1), .val (.ref a2), .val (.int p3), .unset] [(.int (6 : Int32)), (.int p1), (.int (128 : Int32)), (.int (p3 + (1 : Int32))), (.ref a2)]))
  refine own_go (fun t k => XS.ishr X1.here hx rfl (hb hby d1_83) rfl k) ?_
  refine own_go (fun t k => XS.bipush X1.here hx rfl (hb hby d1_84) k) ?_
  refine own_go (fun t k => XS.iand X1.here hx rfl (hb hby d1_86) rfl k) ?_
  refine own_go (fun t k => XS.ior X1.here hx rfl (hb hby d1_87) rfl k) ?_
  refine own_go (fun t k => XS.i2b X1.here hx rfl (hb hby d1_88) rfl k) ?_
  show own_Run p e below Φ (T1.setTop (mkF m 89 #[.val (.int p1), .val (.ref a2), .val (.int p3), .unset] [(.int (((128 : Int32) ||| ((p1 >>> ((6 : Int32) &&& 31)) &&& (63 : Int32))).toInt8.toInt32)), (.int (p3 + (1 : Int32))), (.ref a2)]))
  refine own_bastore X1 hx hZ e1 V1 (j := (p3 + (1 : Int32))) (own_o1 hoff) (p3 + (1 : Int32)).toNatClampNeg rfl (Nat.lt_of_lt_of_eq (own_i1 hoff) (own_l1 _ _ _).symm) (g := (mkF m 89 #[.val (.int p1), .val (.ref a2), .val (.int p3), .unset] [(.int (((128 : Int32) ||| ((p1 >>> ((6 : Int32) &&& 31)) &&& (63 : Int32))).toInt8.toInt32)), (.int (p3 + (1 : Int32))), (.ref a2)])) rfl rfl (hb hby d1_89) (fun T2 h2 X2 e2 W2 V2 => ?_)
  replace V2 : Arv Z h2 a2 k2 .byte (8 : Int32) (own_v2 fb p3 (((224 : Int32) ||| (p1 >>> ((12 : Int32) &&& 31))).toInt8.toInt32) (((128 : Int32) ||| ((p1 >>> ((6 : Int32) &&& 31)) &&& (63 : Int32))).toInt8.toInt32)) (.int d2) := (by rw [own_b8] at V2; exact V2)
  have N2 := Fr.snoc X2 N1 H2
  refine own_go (fun t k => XS.aloadN X2.here hx rfl (hb hby d1_90) rfl rfl  k) ?_
  refine own_go (fun t k => XS.iloadN X2.here hx rfl (hb hby d1_91) rfl  k) ?_
  refine own_go (fun t k => XS.iconst X2.here hx rfl (hb hby d1_92) k) ?_
  refine own_go (fun t k => XS.iadd X2.here hx rfl (hb hby d1_93) rfl k) ?_
  show own_Run p e below Φ (T2.setTop (mkF m 94 #[.val (.int p1), .val (.ref a2), .val (.int p3), .unset] [(.int (p3 + (2 : Int32))), (.ref a2)]))
  refine own_go (fun t k => XS.sipush X2.here hx rfl (hb hby d1_94) k) ?_
  refine own_go (fun t k => XS.iloadN X2.here hx rfl (hb hby d1_97) rfl  k) ?_
  refine own_go (fun t k => XS.bipush X2.here hx rfl (hb hby d1_98) k) ?_
  refine own_go (fun t k => XS.iand X2.here hx rfl (hb hby d1_100) rfl k) ?_
  refine own_go (fun t k => XS.ior X2.here hx rfl (hb hby d1_101) rfl k) ?_
  show own_Run p e below Φ (T2.setTop (mkF m 102 #[.val (.int p1), .val (.ref a2), .val (.int p3), .unset] [(.int ((128 : Int32) ||| (p1 &&& (63 : Int32)))), (.int (p3 + (2 : Int32))), (.ref a2)]))
  refine own_go (fun t k => XS.i2b X2.here hx rfl (hb hby d1_102) rfl k) ?_
  refine own_bastore X2 hx hZ e2 V2 (j := (p3 + (2 : Int32))) (own_o2 hoff) (p3 + (2 : Int32)).toNatClampNeg rfl (Nat.lt_of_lt_of_eq (own_i2 hoff) (own_l2 _ _ _ _).symm) (g := (mkF m 103 #[.val (.int p1), .val (.ref a2), .val (.int p3), .unset] [(.int (((128 : Int32) ||| (p1 &&& (63 : Int32))).toInt8.toInt32)), (.int (p3 + (2 : Int32))), (.ref a2)])) rfl rfl (hb hby d1_103) (fun T3 h3 X3 e3 W3 V3 => ?_)
  replace V3 : Arv Z h3 a2 k2 .byte (8 : Int32) (own_v3 fb p3 (((224 : Int32) ||| (p1 >>> ((12 : Int32) &&& 31))).toInt8.toInt32) (((128 : Int32) ||| ((p1 >>> ((6 : Int32) &&& 31)) &&& (63 : Int32))).toInt8.toInt32) (((128 : Int32) ||| (p1 &&& (63 : Int32))).toInt8.toInt32)) (.int d2) := (by rw [own_b8] at V3; exact V3)
  have N3 := Fr.snoc X3 N2 H2
  refine own_go (fun t k => XS.iconst X3.here hx rfl (hb hby d1_104) k) ?_
  refine own_go (fun t k => XS.istoreN X3.here hx rfl (hb hby d1_105) rfl (l' := #[.val (.int p1), .val (.ref a2), .val (.int p3), .val (.int (3 : Int32))]) rfl k) ?_
  refine own_go (fun t k => XS.goto X3.here hx rfl (pc0 := 106) (pc' := 171) rfl (hb hby d1_106) (by decide) (by decide) k) ?_
  show own_Run p e below Φ (T3.setTop (mkF m 171 #[.val (.int p1), .val (.ref a2), .val (.int p3), .val (.int (3 : Int32))] []))
  refine own_go (fun t k => XS.iloadN X3.here hx rfl (hb hby d1_171) rfl  k) ?_
  have F4 : Keep h0 h3 [a2] := (((K0.wr W1 (Or.inl (List.mem_of_getElem? (i := 0) rfl))).wr W2 (Or.inl (List.mem_of_getElem? (i := 0) rfl))).wr W3 (Or.inl (List.mem_of_getElem? (i := 0) rfl)))
  subst hΦ
  exact own_retI X3 hx Bd.returns hlk (hb hby d1_172) e3 ⟨rfl, N3, F4, V3⟩ (by decide) (by decide)
theorem d1_109 : decode prog_118_method_4_code 109 = .ok (.aload_n 1, 1) := by decide +kernel
theorem d1_110 : decode prog_118_method_4_code 110 = .ok (.iload_n 2, 1) := by decide +kernel
theorem d1_111 : decode prog_118_method_4_code 111 = .ok (.sipush 240, 3) := by decide +kernel
theorem d1_114 : decode prog_118_method_4_code 114 = .ok (.iload_n 0, 1) := by decide +kernel
theorem d1_115 : decode prog_118_method_4_code 115 = .ok (.bipush 18, 2) := by decide +kernel
theorem d1_117 : decode prog_118_method_4_code 117 = .ok (.ishr, 1) := by decide +kernel
theorem d1_118 : decode prog_118_method_4_code 118 = .ok (.ior, 1) := by decide +kernel
theorem d1_119 : decode prog_118_method_4_code 119 = .ok (.i2b, 1) := by decide +kernel
theorem d1_120 : decode prog_118_method_4_code 120 = .ok (.bastore, 1) := by decide +kernel
theorem d1_121 : decode prog_118_method_4_code 121 = .ok (.aload_n 1, 1) := by decide +kernel
theorem d1_122 : decode prog_118_method_4_code 122 = .ok (.iload_n 2, 1) := by decide +kernel
theorem d1_123 : decode prog_118_method_4_code 123 = .ok (.iconst 1, 1) := by decide +kernel
theorem d1_124 : decode prog_118_method_4_code 124 = .ok (.iadd, 1) := by decide +kernel
theorem d1_125 : decode prog_118_method_4_code 125 = .ok (.sipush 128, 3) := by decide +kernel
theorem d1_128 : decode prog_118_method_4_code 128 = .ok (.iload_n 0, 1) := by decide +kernel
theorem d1_129 : decode prog_118_method_4_code 129 = .ok (.bipush 12, 2) := by decide +kernel
theorem d1_131 : decode prog_118_method_4_code 131 = .ok (.ishr, 1) := by decide +kernel
theorem d1_132 : decode prog_118_method_4_code 132 = .ok (.bipush 63, 2) := by decide +kernel
theorem d1_134 : decode prog_118_method_4_code 134 = .ok (.iand, 1) := by decide +kernel
theorem d1_135 : decode prog_118_method_4_code 135 = .ok (.ior, 1) := by decide +kernel
theorem d1_136 : decode prog_118_method_4_code 136 = .ok (.i2b, 1) := by decide +kernel
theorem d1_137 : decode prog_118_method_4_code 137 = .ok (.bastore, 1) := by decide +kernel
theorem d1_138 : decode prog_118_method_4_code 138 = .ok (.aload_n 1, 1) := by decide +kernel
theorem d1_139 : decode prog_118_method_4_code 139 = .ok (.iload_n 2, 1) := by decide +kernel
theorem d1_140 : decode prog_118_method_4_code 140 = .ok (.iconst 2, 1) := by decide +kernel
theorem d1_141 : decode prog_118_method_4_code 141 = .ok (.iadd, 1) := by decide +kernel
theorem d1_142 : decode prog_118_method_4_code 142 = .ok (.sipush 128, 3) := by decide +kernel
theorem d1_145 : decode prog_118_method_4_code 145 = .ok (.iload_n 0, 1) := by decide +kernel
theorem d1_146 : decode prog_118_method_4_code 146 = .ok (.bipush 6, 2) := by decide +kernel
theorem d1_148 : decode prog_118_method_4_code 148 = .ok (.ishr, 1) := by decide +kernel
theorem d1_149 : decode prog_118_method_4_code 149 = .ok (.bipush 63, 2) := by decide +kernel
theorem d1_151 : decode prog_118_method_4_code 151 = .ok (.iand, 1) := by decide +kernel
theorem d1_152 : decode prog_118_method_4_code 152 = .ok (.ior, 1) := by decide +kernel
theorem d1_153 : decode prog_118_method_4_code 153 = .ok (.i2b, 1) := by decide +kernel
theorem d1_154 : decode prog_118_method_4_code 154 = .ok (.bastore, 1) := by decide +kernel
theorem d1_155 : decode prog_118_method_4_code 155 = .ok (.aload_n 1, 1) := by decide +kernel
theorem d1_156 : decode prog_118_method_4_code 156 = .ok (.iload_n 2, 1) := by decide +kernel
theorem d1_157 : decode prog_118_method_4_code 157 = .ok (.iconst 3, 1) := by decide +kernel
theorem d1_158 : decode prog_118_method_4_code 158 = .ok (.iadd, 1) := by decide +kernel
theorem d1_159 : decode prog_118_method_4_code 159 = .ok (.sipush 128, 3) := by decide +kernel
theorem d1_162 : decode prog_118_method_4_code 162 = .ok (.iload_n 0, 1) := by decide +kernel
theorem d1_163 : decode prog_118_method_4_code 163 = .ok (.bipush 63, 2) := by decide +kernel
theorem d1_165 : decode prog_118_method_4_code 165 = .ok (.iand, 1) := by decide +kernel
theorem d1_166 : decode prog_118_method_4_code 166 = .ok (.ior, 1) := by decide +kernel
theorem d1_167 : decode prog_118_method_4_code 167 = .ok (.i2b, 1) := by decide +kernel
theorem d1_168 : decode prog_118_method_4_code 168 = .ok (.bastore, 1) := by decide +kernel
theorem d1_169 : decode prog_118_method_4_code 169 = .ok (.iconst 4, 1) := by decide +kernel
theorem d1_170 : decode prog_118_method_4_code 170 = .ok (.istore_n 3, 1) := by decide +kernel
set_option maxRecDepth 65536 in
set_option maxHeartbeats 40000000 in
theorem rm_enc4 (l : Launch) (Z : State) (a0 : Array Value) (hw : ∀ d ∈ tables_1, d.before a0 Z = true) (p1 : Int32) (a2 : Addr) (p3 : Int32) (k2 : ClassId) (fb : Int32) (d2 : Int32) (h0 : Heap) (n0 : Nat) (H1 : Arv Z h0 a2 k2 .byte (8 : Int32) (own_z fb) (.int d2)) (H2 : n0 ≤ a2) (hoff : own_O p3) (hlo : 65536 ≤ p1.toInt) (hhi : p1.toInt < 1114112) :
    own_Met l Z (⟨"com/example/templum/templum/validation/Utf8", "encode", "(I[BI)I"⟩ : MethodName) prog_118_method_4_code 4 (some .int) ({ frames := 0, cells := 0, slots := 0, locals := 0 } : Room) #[(.int p1), (.ref a2), (.int p3)] h0 (fun v h L => v = some (.int (4 : Int32)) ∧ Fr n0 L ∧ Keep h0 h [a2] ∧ Arv Z h a2 k2 .byte (8 : Int32) (own_v4 fb p3 (((240 : Int32) ||| (p1 >>> ((18 : Int32) &&& 31))).toInt8.toInt32) (((128 : Int32) ||| ((p1 >>> ((12 : Int32) &&& 31)) &&& (63 : Int32))).toInt8.toInt32) (((128 : Int32) ||| ((p1 >>> ((6 : Int32) &&& 31)) &&& (63 : Int32))).toInt8.toInt32) (((128 : Int32) ||| (p1 &&& (63 : Int32))).toInt8.toInt32)) (.int d2)) := by
  intro ws
  refine MetFree.of_bodySF (plainFor_of_name pn_c1) hisR ?_
  intro p e s m args below meth c s₁ Bd hml0 hP hK
  obtain ⟨rfl, hZ, hh⟩ := hP
  have hx := Bd.exec
  have hby := Bd.bytes
  have hml : c.maxLocals = 4 := hml0
  have hown : s.vm.findClass "com/example/templum/templum/validation/Utf8" = some m.cls := findClass_of_methodNamed Bd.named
  have hnm := (name_of_methodNamed Bd.named Bd.method).1
  have hlk : meth.locks = false := Bd.notSynchronized
  have X0 : Stand p l e ({ frames := 0, cells := 0, slots := 0, locals := 0 } : Room) s m #[(.int p1), (.ref a2), (.int p3)] below meth c s₁ [] 0 0 := Stand.of_body Bd
  have e0 : s₁.heap = h0 := by rw [← hh, Bd.state]; rfl
  have N0 := Fr.nil n0
  refine own_body (Q := fun v h L => v = some (.int (4 : Int32)) ∧ Fr n0 L ∧ Keep h0 h [a2] ∧ Arv Z h a2 k2 .byte (8 : Int32) (own_v4 fb p3 (((240 : Int32) ||| (p1 >>> ((18 : Int32) &&& 31))).toInt8.toInt32) (((128 : Int32) ||| ((p1 >>> ((12 : Int32) &&& 31)) &&& (63 : Int32))).toInt8.toInt32) (((128 : Int32) ||| ((p1 >>> ((6 : Int32) &&& 31)) &&& (63 : Int32))).toInt8.toInt32) (((128 : Int32) ||| (p1 &&& (63 : Int32))).toInt8.toInt32)) (.int d2)) ?_
  generalize hΦ : own_Fin s below _ _ _ = Φ
  refine own_cast (ef_1_IRI m p1 a2 p3) ?_
  have K0 := Keep.refl h0 [a2]
  show own_Run p e below Φ (s₁.setTop (mkF m 0 #[.val (.int p1), .val (.ref a2), .val (.int p3), .unset] []))
  refine own_go (fun t k => XS.iloadN X0.here hx rfl (hb hby d1_0) rfl  k) ?_
  refine own_go (fun t k => XS.sipush X0.here hx rfl (hb hby d1_1) k) ?_
  have hc4 : ¬ (p1 < (128 : Int32)) := (by rw [Int32.lt_iff_toInt_lt]; simp only [Int32.reduceToInt]; omega)
  refine own_go (fun t k => XS.icmpYes X0.here hx rfl (pc0 := 4) (pc' := 17) rfl (hb hby d1_4) rfl (flt hc4).2.1 (by decide) (by decide) k) ?_
  refine own_go (fun t k => XS.iloadN X0.here hx rfl (hb hby d1_17) rfl  k) ?_
  refine own_go (fun t k => XS.sipush X0.here hx rfl (hb hby d1_18) k) ?_
  show own_Run p e below Φ (s₁.setTop (mkF m 21 #[.val (.int p1), .val (.ref a2), .val (.int p3), .unset] [(.int (2048 : Int32)), (.int p1)]))
  have hc21 : ¬ (p1 < (2048 : Int32)) := (by rw [Int32.lt_iff_toInt_lt]; simp only [Int32.reduceToInt]; omega)
  refine own_go (fun t k => XS.icmpYes X0.here hx rfl (pc0 := 21) (pc' := 55) rfl (hb hby d1_21) rfl (flt hc21).2.1 (by decide) (by decide) k) ?_
  refine own_go (fun t k => XS.iloadN X0.here hx rfl (hb hby d1_55) rfl  k) ?_
  refine own_go (X0.ldcInt hx hown (mvT hZ (hw _ (List.mem_of_getElem? (i := 15) rfl))) (g := (mkF m 56 #[.val (.int p1), .val (.ref a2), .val (.int p3), .unset] [(.int p1)])) rfl (hb hby d1_56)) ?_
  have hc58 : ¬ (p1 < (65536 : Int32)) := (by rw [Int32.lt_iff_toInt_lt]; simp only [Int32.reduceToInt]; omega)
  refine own_go (fun t k => XS.icmpYes X0.here hx rfl (pc0 := 58) (pc' := 109) rfl (hb hby d1_58) rfl (flt hc58).2.1 (by decide) (by decide) k) ?_
  refine own_go (fun t k => XS.aloadN X0.here hx rfl (hb hby d1_109) rfl rfl  k) ?_
  show own_Run p e below Φ (s₁.setTop (mkF m 110 #[.val (.int p1), .val (.ref a2), .val (.int p3), .unset] [(.ref a2)]))
  refine own_go (fun t k => XS.iloadN X0.here hx rfl (hb hby d1_110) rfl  k) ?_
  refine own_go (fun t k => XS.sipush X0.here hx rfl (hb hby d1_111) k) ?_
  refine own_go (fun t k => XS.iloadN X0.here hx rfl (hb hby d1_114) rfl  k) ?_
  refine own_go (fun t k => XS.bipush X0.here hx rfl (hb hby d1_115) k) ?_
  refine own_go (fun t k => XS.ishr X0.here hx rfl (hb hby d1_117) rfl k) ?_
  show own_Run p e below Φ (s₁.setTop (mkF m 118 #[.val (.int p1), .val (.ref a2), .val (.int p3), .unset] [(.int (p1 >>> ((18 : Int32) &&& 31))), (.int (240 : Int32)), (.int p3), (.ref a2)]))
  refine own_go (fun t k => XS.ior X0.here hx rfl (hb hby d1_118) rfl k) ?_
  refine own_go (fun t k => XS.i2b X0.here hx rfl (hb hby d1_119) rfl k) ?_
  refine own_bastore X0 hx hZ e0 H1 (j := p3) (own_o0 hoff) p3.toNatClampNeg rfl (Nat.lt_of_lt_of_eq (own_i0 hoff) (own_l0 _).symm) (g := (mkF m 120 #[.val (.int p1), .val (.ref a2), .val (.int p3), .unset] [(.int (((240 : Int32) ||| (p1 >>> ((18 : Int32) &&& 31))).toInt8.toInt32)), (.int p3), (.ref a2)])) rfl rfl (hb hby d1_120) (fun T1 h1 X1 e1 W1 V1 => ?_)
  replace V1 : Arv Z h1 a2 k2 .byte (8 : Int32) (own_v1 fb p3 (((240 : Int32) ||| (p1 >>> ((18 : Int32) &&& 31))).toInt8.toInt32)) (.int d2) := (by rw [own_b8] at V1; exact V1)
  have N1 := Fr.snoc X1 N0 H2
  refine own_go (fun t k => XS.aloadN X1.here hx rfl (hb hby d1_121) rfl rfl  k) ?_
  refine own_go (fun t k => XS.iloadN X1.here hx rfl (hb hby d1_122) rfl  k) ?_
  show own_Run p e below Φ (T1.setTop (mkF m 123 #[.val (.int p1), .val (.ref a2), .val (.int p3), .unset] [(.int p3), (.ref a2)]))
  refine own_go (fun t k => XS.iconst X1.here hx rfl (hb hby d1_123) k) ?_
  refine own_go (fun t k => XS.iadd X1.here hx rfl (hb hby d1_124) rfl k) ?_
  refine own_go (fun t k => XS.sipush X1.here hx rfl (hb hby d1_125) k) ?_
  refine own_go (fun t k => XS.iloadN X1.here hx rfl (hb hby d1_128) rfl  k) ?_
  refine own_go (fun t k => XS.bipush X1.here hx rfl (hb hby d1_129) k) ?_
  show own_Run p e below Φ (T1.setTop (mkF m 131 #[.val (.int p1), .val (.ref a2), .val (.int p3), .unset] [(.int (12 : Int32)), (.int p1), (.int (128 : Int32)), (.int (p3 + (1 : Int32))), (.ref a2)]))
  refine own_go (fun t k => XS.ishr X1.here hx rfl (hb hby d1_131) rfl k) ?_
  refine own_go (fun t k => XS.bipush X1.here hx rfl (hb hby d1_132) k) ?_
  refine own_go (fun t k => XS.iand X1.here hx rfl (hb hby d1_134) rfl k) ?_
  refine own_go (fun t k => XS.ior X1.here hx rfl (hb hby d1_135) rfl k) ?_
  refine own_go (fun t k => XS.i2b X1.here hx rfl (hb hby d1_136) rfl k) ?_
  show own_Run p e below Φ (T1.setTop (mkF m 137 #[.val (.int p1), .val (.ref a2), .val (.int p3), .unset] [(.int (((128 : Int32) ||| ((p1 >>> ((12 : Int32) &&& 31)) &&& (63 : Int32))).toInt8.toInt32)), (.int (p3 + (1 : Int32))), (.ref a2)]))
  refine own_bastore X1 hx hZ e1 V1 (j := (p3 + (1 : Int32))) (own_o1 hoff) (p3 + (1 : Int32)).toNatClampNeg rfl (Nat.lt_of_lt_of_eq (own_i1 hoff) (own_l1 _ _ _).symm) (g := (mkF m 137 #[.val (.int p1), .val (.ref a2), .val (.int p3), .unset] [(.int (((128 : Int32) ||| ((p1 >>> ((12 : Int32) &&& 31)) &&& (63 : Int32))).toInt8.toInt32)), (.int (p3 + (1 : Int32))), (.ref a2)])) rfl rfl (hb hby d1_137) (fun T2 h2 X2 e2 W2 V2 => ?_)
  replace V2 : Arv Z h2 a2 k2 .byte (8 : Int32) (own_v2 fb p3 (((240 : Int32) ||| (p1 >>> ((18 : Int32) &&& 31))).toInt8.toInt32) (((128 : Int32) ||| ((p1 >>> ((12 : Int32) &&& 31)) &&& (63 : Int32))).toInt8.toInt32)) (.int d2) := (by rw [own_b8] at V2; exact V2)
  have N2 := Fr.snoc X2 N1 H2
  refine own_go (fun t k => XS.aloadN X2.here hx rfl (hb hby d1_138) rfl rfl  k) ?_
  refine own_go (fun t k => XS.iloadN X2.here hx rfl (hb hby d1_139) rfl  k) ?_
  refine own_go (fun t k => XS.iconst X2.here hx rfl (hb hby d1_140) k) ?_
  refine own_go (fun t k => XS.iadd X2.here hx rfl (hb hby d1_141) rfl k) ?_
  show own_Run p e below Φ (T2.setTop (mkF m 142 #[.val (.int p1), .val (.ref a2), .val (.int p3), .unset] [(.int (p3 + (2 : Int32))), (.ref a2)]))
  refine own_go (fun t k => XS.sipush X2.here hx rfl (hb hby d1_142) k) ?_
  refine own_go (fun t k => XS.iloadN X2.here hx rfl (hb hby d1_145) rfl  k) ?_
  refine own_go (fun t k => XS.bipush X2.here hx rfl (hb hby d1_146) k) ?_
  refine own_go (fun t k => XS.ishr X2.here hx rfl (hb hby d1_148) rfl k) ?_
  refine own_go (fun t k => XS.bipush X2.here hx rfl (hb hby d1_149) k) ?_
  show own_Run p e below Φ (T2.setTop (mkF m 151 #[.val (.int p1), .val (.ref a2), .val (.int p3), .unset] [(.int (63 : Int32)), (.int (p1 >>> ((6 : Int32) &&& 31))), (.int (128 : Int32)), (.int (p3 + (2 : Int32))), (.ref a2)]))
  refine own_go (fun t k => XS.iand X2.here hx rfl (hb hby d1_151) rfl k) ?_
  refine own_go (fun t k => XS.ior X2.here hx rfl (hb hby d1_152) rfl k) ?_
  refine own_go (fun t k => XS.i2b X2.here hx rfl (hb hby d1_153) rfl k) ?_
  refine own_bastore X2 hx hZ e2 V2 (j := (p3 + (2 : Int32))) (own_o2 hoff) (p3 + (2 : Int32)).toNatClampNeg rfl (Nat.lt_of_lt_of_eq (own_i2 hoff) (own_l2 _ _ _ _).symm) (g := (mkF m 154 #[.val (.int p1), .val (.ref a2), .val (.int p3), .unset] [(.int (((128 : Int32) ||| ((p1 >>> ((6 : Int32) &&& 31)) &&& (63 : Int32))).toInt8.toInt32)), (.int (p3 + (2 : Int32))), (.ref a2)])) rfl rfl (hb hby d1_154) (fun T3 h3 X3 e3 W3 V3 => ?_)
  replace V3 : Arv Z h3 a2 k2 .byte (8 : Int32) (own_v3 fb p3 (((240 : Int32) ||| (p1 >>> ((18 : Int32) &&& 31))).toInt8.toInt32) (((128 : Int32) ||| ((p1 >>> ((12 : Int32) &&& 31)) &&& (63 : Int32))).toInt8.toInt32) (((128 : Int32) ||| ((p1 >>> ((6 : Int32) &&& 31)) &&& (63 : Int32))).toInt8.toInt32)) (.int d2) := (by rw [own_b8] at V3; exact V3)
  have N3 := Fr.snoc X3 N2 H2
  refine own_go (fun t k => XS.aloadN X3.here hx rfl (hb hby d1_155) rfl rfl  k) ?_
  show own_Run p e below Φ (T3.setTop (mkF m 156 #[.val (.int p1), .val (.ref a2), .val (.int p3), .unset] [(.ref a2)]))
  refine own_go (fun t k => XS.iloadN X3.here hx rfl (hb hby d1_156) rfl  k) ?_
  refine own_go (fun t k => XS.iconst X3.here hx rfl (hb hby d1_157) k) ?_
  refine own_go (fun t k => XS.iadd X3.here hx rfl (hb hby d1_158) rfl k) ?_
  refine own_go (fun t k => XS.sipush X3.here hx rfl (hb hby d1_159) k) ?_
  refine own_go (fun t k => XS.iloadN X3.here hx rfl (hb hby d1_162) rfl  k) ?_
  show own_Run p e below Φ (T3.setTop (mkF m 163 #[.val (.int p1), .val (.ref a2), .val (.int p3), .unset] [(.int p1), (.int (128 : Int32)), (.int (p3 + (3 : Int32))), (.ref a2)]))
  refine own_go (fun t k => XS.bipush X3.here hx rfl (hb hby d1_163) k) ?_
  refine own_go (fun t k => XS.iand X3.here hx rfl (hb hby d1_165) rfl k) ?_
  refine own_go (fun t k => XS.ior X3.here hx rfl (hb hby d1_166) rfl k) ?_
  refine own_go (fun t k => XS.i2b X3.here hx rfl (hb hby d1_167) rfl k) ?_
  refine own_bastore X3 hx hZ e3 V3 (j := (p3 + (3 : Int32))) (own_o3 hoff) (p3 + (3 : Int32)).toNatClampNeg rfl (Nat.lt_of_lt_of_eq (own_i3 hoff) (own_l3 _ _ _ _ _).symm) (g := (mkF m 168 #[.val (.int p1), .val (.ref a2), .val (.int p3), .unset] [(.int (((128 : Int32) ||| (p1 &&& (63 : Int32))).toInt8.toInt32)), (.int (p3 + (3 : Int32))), (.ref a2)])) rfl rfl (hb hby d1_168) (fun T4 h4 X4 e4 W4 V4 => ?_)
  replace V4 : Arv Z h4 a2 k2 .byte (8 : Int32) (own_v4 fb p3 (((240 : Int32) ||| (p1 >>> ((18 : Int32) &&& 31))).toInt8.toInt32) (((128 : Int32) ||| ((p1 >>> ((12 : Int32) &&& 31)) &&& (63 : Int32))).toInt8.toInt32) (((128 : Int32) ||| ((p1 >>> ((6 : Int32) &&& 31)) &&& (63 : Int32))).toInt8.toInt32) (((128 : Int32) ||| (p1 &&& (63 : Int32))).toInt8.toInt32)) (.int d2) := (by rw [own_b8] at V4; exact V4)
  have N4 := Fr.snoc X4 N3 H2
  show own_Run p e below Φ (T4.setTop (mkF m 169 #[.val (.int p1), .val (.ref a2), .val (.int p3), .unset] []))
  refine own_go (fun t k => XS.iconst X4.here hx rfl (hb hby d1_169) k) ?_
  refine own_go (fun t k => XS.istoreN X4.here hx rfl (hb hby d1_170) rfl (l' := #[.val (.int p1), .val (.ref a2), .val (.int p3), .val (.int (4 : Int32))]) rfl k) ?_
  refine own_go (fun t k => XS.iloadN X4.here hx rfl (hb hby d1_171) rfl  k) ?_
  have F5 : Keep h0 h4 [a2] := ((((K0.wr W1 (Or.inl (List.mem_of_getElem? (i := 0) rfl))).wr W2 (Or.inl (List.mem_of_getElem? (i := 0) rfl))).wr W3 (Or.inl (List.mem_of_getElem? (i := 0) rfl))).wr W4 (Or.inl (List.mem_of_getElem? (i := 0) rfl)))
  subst hΦ
  exact own_retI X4 hx Bd.returns hlk (hb hby d1_172) e4 ⟨rfl, N4, F5, V4⟩ (by decide) (by decide)
theorem d4_0 : decode prog_118_method_3_code 0 = .ok (.aload_n 0, 1) := by decide +kernel
theorem d4_1 : decode prog_118_method_3_code 1 = .ok (.iload_n 1, 1) := by decide +kernel
theorem d4_2 : decode prog_118_method_3_code 2 = .ok (.baload, 1) := by decide +kernel
theorem d4_3 : decode prog_118_method_3_code 3 = .ok (.bipush 127, 2) := by decide +kernel
theorem d4_5 : decode prog_118_method_3_code 5 = .ok (.iload_n 2, 1) := by decide +kernel
theorem d4_6 : decode prog_118_method_3_code 6 = .ok (.ishr, 1) := by decide +kernel
theorem d4_7 : decode prog_118_method_3_code 7 = .ok (.iand, 1) := by decide +kernel
theorem d4_8 : decode prog_118_method_3_code 8 = .ok (.istore_n 3, 1) := by decide +kernel
theorem d4_9 : decode prog_118_method_3_code 9 = .ok (.iconst 1, 1) := by decide +kernel
theorem d4_10 : decode prog_118_method_3_code 10 = .ok (.istore 4, 2) := by decide +kernel
theorem d4_12 : decode prog_118_method_3_code 12 = .ok (.iload 4, 2) := by decide +kernel
theorem d4_14 : decode prog_118_method_3_code 14 = .ok (.iload_n 2, 1) := by decide +kernel
theorem d4_15 : decode prog_118_method_3_code 15 = .ok (.if_icmp .ge 42, 3) := by decide +kernel
theorem d4_18 : decode prog_118_method_3_code 18 = .ok (.aload_n 0, 1) := by decide +kernel
theorem d4_19 : decode prog_118_method_3_code 19 = .ok (.iload_n 1, 1) := by decide +kernel
theorem d4_20 : decode prog_118_method_3_code 20 = .ok (.iload 4, 2) := by decide +kernel
theorem d4_22 : decode prog_118_method_3_code 22 = .ok (.iadd, 1) := by decide +kernel
theorem d4_23 : decode prog_118_method_3_code 23 = .ok (.baload, 1) := by decide +kernel
theorem d4_24 : decode prog_118_method_3_code 24 = .ok (.istore 5, 2) := by decide +kernel
theorem d4_26 : decode prog_118_method_3_code 26 = .ok (.iload 5, 2) := by decide +kernel
theorem d4_28 : decode prog_118_method_3_code 28 = .ok (.sipush 192, 3) := by decide +kernel
theorem d4_31 : decode prog_118_method_3_code 31 = .ok (.iand, 1) := by decide +kernel
theorem d4_32 : decode prog_118_method_3_code 32 = .ok (.sipush 128, 3) := by decide +kernel
theorem d4_35 : decode prog_118_method_3_code 35 = .ok (.if_icmp .eq 5, 3) := by decide +kernel
theorem d4_38 : decode prog_118_method_3_code 38 = .ok (.iconst (-1), 1) := by decide +kernel
theorem d4_39 : decode prog_118_method_3_code 39 = .ok (.ireturn, 1) := by decide +kernel
theorem d4_40 : decode prog_118_method_3_code 40 = .ok (.iload_n 3, 1) := by decide +kernel
theorem d4_41 : decode prog_118_method_3_code 41 = .ok (.bipush 6, 2) := by decide +kernel
theorem d4_43 : decode prog_118_method_3_code 43 = .ok (.ishl, 1) := by decide +kernel
theorem d4_44 : decode prog_118_method_3_code 44 = .ok (.iload 5, 2) := by decide +kernel
theorem d4_46 : decode prog_118_method_3_code 46 = .ok (.bipush 63, 2) := by decide +kernel
theorem d4_48 : decode prog_118_method_3_code 48 = .ok (.iand, 1) := by decide +kernel
theorem d4_49 : decode prog_118_method_3_code 49 = .ok (.ior, 1) := by decide +kernel
theorem d4_50 : decode prog_118_method_3_code 50 = .ok (.istore_n 3, 1) := by decide +kernel
theorem d4_51 : decode prog_118_method_3_code 51 = .ok (.iinc 4 1, 3) := by decide +kernel
theorem d4_54 : decode prog_118_method_3_code 54 = .ok (.goto (-42), 3) := by decide +kernel
theorem d4_57 : decode prog_118_method_3_code 57 = .ok (.iload_n 3, 1) := by decide +kernel
theorem d4_58 : decode prog_118_method_3_code 58 = .ok (.getstatic 7, 3) := by decide +kernel
theorem d4_61 : decode prog_118_method_3_code 61 = .ok (.iload_n 2, 1) := by decide +kernel
theorem d4_62 : decode prog_118_method_3_code 62 = .ok (.iaload, 1) := by decide +kernel
theorem d4_63 : decode prog_118_method_3_code 63 = .ok (.if_icmp .lt 21, 3) := by decide +kernel
theorem d4_66 : decode prog_118_method_3_code 66 = .ok (.iload_n 3, 1) := by decide +kernel
theorem d4_67 : decode prog_118_method_3_code 67 = .ok (.ldc 15, 2) := by decide +kernel
theorem d4_69 : decode prog_118_method_3_code 69 = .ok (.if_icmp .lt 9, 3) := by decide +kernel
theorem d4_72 : decode prog_118_method_3_code 72 = .ok (.iload_n 3, 1) := by decide +kernel
theorem d4_73 : decode prog_118_method_3_code 73 = .ok (.ldc 16, 2) := by decide +kernel
theorem d4_75 : decode prog_118_method_3_code 75 = .ok (.if_icmp .le 9, 3) := by decide +kernel
theorem d4_78 : decode prog_118_method_3_code 78 = .ok (.iload_n 3, 1) := by decide +kernel
theorem d4_79 : decode prog_118_method_3_code 79 = .ok (.ldc 17, 2) := by decide +kernel
theorem d4_81 : decode prog_118_method_3_code 81 = .ok (.if_icmp .le 5, 3) := by decide +kernel
theorem d4_84 : decode prog_118_method_3_code 84 = .ok (.iconst (-1), 1) := by decide +kernel
theorem d4_85 : decode prog_118_method_3_code 85 = .ok (.ireturn, 1) := by decide +kernel
theorem d4_86 : decode prog_118_method_3_code 86 = .ok (.iload_n 3, 1) := by decide +kernel
theorem d4_87 : decode prog_118_method_3_code 87 = .ok (.ireturn, 1) := by decide +kernel
theorem ef_4_RII (m : MethodId) (x0 : Addr) (x1 : Int32) (x2 : Int32) : entryFrame m #[(.ref x0), (.int x1), (.int x2)] 6 = mkF m 0 #[.val (.ref x0), .val (.int x1), .val (.int x2), .unset, .unset, .unset] [] := by first | (simp [entryFrame, mkF, argsToLocals, Value.category]; done) | rfl
set_option maxRecDepth 65536 in
set_option maxHeartbeats 40000000 in
theorem rm_dec2 (l : Launch) (Z : State) (a0 : Array Value) (hw : ∀ d ∈ tables_1, d.before a0 Z = true) (a1 : Addr) (p2 : Int32) (k1 : ClassId) (us : List Value) (d1 : Int32) (x0 : Int32) (x1 : Int32) (w1 : Addr) (kw : ClassId) (h0 : Heap) (n0 : Nat) (H1 : Arv Z h0 a1 k1 .byte (8 : Int32) us (.int d1)) (H2 : Old Z n0 h0) (H3 : Sta Z Z.heap "com/example/templum/templum/validation/Utf8" "LEAST_OF_LENGTH" "[I" (.ref w1)) (H4 : Arv Z h0 w1 kw .int (5 : Int32) [(.int (0 : Int32)), (.int (0 : Int32)), (.int (128 : Int32)), (.int (2048 : Int32)), (.int (65536 : Int32))] (.int (0 : Int32))) (hb0 : ¬ p2 < 0 ∧ p2 < (8 : Int32)) (hv0 : us.getD p2.toNatClampNeg (.int d1) = .int x0) (hb1 : ¬ (p2 + (1 : Int32)) < 0 ∧ (p2 + (1 : Int32)) < (8 : Int32)) (hv1 : us.getD (p2 + (1 : Int32)).toNatClampNeg (.int d1) = .int x1) :
    own_Met l Z (⟨"com/example/templum/templum/validation/Utf8", "decode", "([BII)I"⟩ : MethodName) prog_118_method_3_code 6 (some .int) ({ frames := 0, cells := 0, slots := 0, locals := 0 } : Room) #[(.ref a1), (.int p2), (.int (2 : Int32))] h0 (fun v h L => v = some (.int (own_dec2 x0 x1)) ∧ Fr n0 L ∧ h = h0) := by
  intro ws
  refine MetFree.of_bodySF (plainFor_of_name pn_c1) hisR ?_
  intro p e s m args below meth c s₁ Bd hml0 hP hK
  obtain ⟨rfl, hZ, hh⟩ := hP
  have hx := Bd.exec
  have hby := Bd.bytes
  have hml : c.maxLocals = 6 := hml0
  have hown : s.vm.findClass "com/example/templum/templum/validation/Utf8" = some m.cls := findClass_of_methodNamed Bd.named
  have hnm := (name_of_methodNamed Bd.named Bd.method).1
  have hlk : meth.locks = false := Bd.notSynchronized
  have X0 : Stand p l e ({ frames := 0, cells := 0, slots := 0, locals := 0 } : Room) s m #[(.ref a1), (.int p2), (.int (2 : Int32))] below meth c s₁ [] 0 0 := Stand.of_body Bd
  have e0 : s₁.heap = h0 := by rw [← hh, Bd.state]; rfl
  have N0 := Fr.nil n0
  refine own_body (Q := fun v h L => v = some (.int (own_dec2 x0 x1)) ∧ Fr n0 L ∧ h = h0) ?_
  generalize hΦ : own_Fin s below _ _ _ = Φ
  refine own_cast (ef_4_RII m a1 p2 (2 : Int32)) ?_
  show own_Run p e below Φ (s₁.setTop (mkF m 0 #[.val (.ref a1), .val (.int p2), .val (.int (2 : Int32)), .unset, .unset, .unset] []))
  refine own_go (fun t k => XS.aloadN X0.here hx rfl (hb hby d4_0) rfl rfl  k) ?_
  refine own_go (fun t k => XS.iloadN X0.here hx rfl (hb hby d4_1) rfl  k) ?_
  refine own_baload X0 hx hZ e0 H1 (j := p2) (v := (.int x0)) hb0 hv0 (g := (mkF m 2 #[.val (.ref a1), .val (.int p2), .val (.int (2 : Int32)), .unset, .unset, .unset] [(.int p2), (.ref a1)])) rfl rfl (hb hby d4_2) ?_
  refine own_go (fun t k => XS.bipush X0.here hx rfl (hb hby d4_3) k) ?_
  refine own_go (fun t k => XS.iloadN X0.here hx rfl (hb hby d4_5) rfl  k) ?_
  show own_Run p e below Φ (s₁.setTop (mkF m 6 #[.val (.ref a1), .val (.int p2), .val (.int (2 : Int32)), .unset, .unset, .unset] [(.int (2 : Int32)), (.int (127 : Int32)), (.int x0)]))
  refine own_go (fun t k => XS.ishr X0.here hx rfl (hb hby d4_6) rfl k) ?_
  show own_Run p e below Φ (s₁.setTop (mkF m 7 #[.val (.ref a1), .val (.int p2), .val (.int (2 : Int32)), .unset, .unset, .unset] [(.int ((127 : Int32) >>> ((2 : Int32) &&& 31))), (.int x0)]))
  rw [show ((127 : Int32) >>> ((2 : Int32) &&& 31)) = (31 : Int32) from by decide]
  show own_Run p e below Φ (s₁.setTop (mkF m 7 #[.val (.ref a1), .val (.int p2), .val (.int (2 : Int32)), .unset, .unset, .unset] [(.int (31 : Int32)), (.int x0)]))
  refine own_go (fun t k => XS.iand X0.here hx rfl (hb hby d4_7) rfl k) ?_
  refine own_go (fun t k => XS.istoreN X0.here hx rfl (hb hby d4_8) rfl (l' := #[.val (.ref a1), .val (.int p2), .val (.int (2 : Int32)), .val (.int (x0 &&& (31 : Int32))), .unset, .unset]) rfl k) ?_
  refine own_go (fun t k => XS.iconst X0.here hx rfl (hb hby d4_9) k) ?_
  refine own_go (fun t k => XS.istore X0.here hx rfl (hb hby d4_10) rfl (l' := #[.val (.ref a1), .val (.int p2), .val (.int (2 : Int32)), .val (.int (x0 &&& (31 : Int32))), .val (.int (1 : Int32)), .unset]) rfl k) ?_
  refine own_go (fun t k => XS.iload X0.here hx rfl (hb hby d4_12) rfl  k) ?_
  show own_Run p e below Φ (s₁.setTop (mkF m 14 #[.val (.ref a1), .val (.int p2), .val (.int (2 : Int32)), .val (.int (x0 &&& (31 : Int32))), .val (.int (1 : Int32)), .unset] [(.int (1 : Int32))]))
  refine own_go (fun t k => XS.iloadN X0.here hx rfl (hb hby d4_14) rfl  k) ?_
  refine own_go (fun t k => XS.icmpNo X0.here hx rfl (hb hby d4_15) rfl (tlt (by decide : (1 : Int32) < (2 : Int32))).2.1 k) ?_
  refine own_go (fun t k => XS.aloadN X0.here hx rfl (hb hby d4_18) rfl rfl  k) ?_
  refine own_go (fun t k => XS.iloadN X0.here hx rfl (hb hby d4_19) rfl  k) ?_
  refine own_go (fun t k => XS.iload X0.here hx rfl (hb hby d4_20) rfl  k) ?_
  show own_Run p e below Φ (s₁.setTop (mkF m 22 #[.val (.ref a1), .val (.int p2), .val (.int (2 : Int32)), .val (.int (x0 &&& (31 : Int32))), .val (.int (1 : Int32)), .unset] [(.int (1 : Int32)), (.int p2), (.ref a1)]))
  refine own_go (fun t k => XS.iadd X0.here hx rfl (hb hby d4_22) rfl k) ?_
  refine own_baload X0 hx hZ e0 H1 (j := (p2 + (1 : Int32))) (v := (.int x1)) hb1 hv1 (g := (mkF m 23 #[.val (.ref a1), .val (.int p2), .val (.int (2 : Int32)), .val (.int (x0 &&& (31 : Int32))), .val (.int (1 : Int32)), .unset] [(.int (p2 + (1 : Int32))), (.ref a1)])) rfl rfl (hb hby d4_23) ?_
  refine own_go (fun t k => XS.istore X0.here hx rfl (hb hby d4_24) rfl (l' := #[.val (.ref a1), .val (.int p2), .val (.int (2 : Int32)), .val (.int (x0 &&& (31 : Int32))), .val (.int (1 : Int32)), .val (.int x1)]) rfl k) ?_
  refine own_go (fun t k => XS.iload X0.here hx rfl (hb hby d4_26) rfl  k) ?_
  refine own_go (fun t k => XS.sipush X0.here hx rfl (hb hby d4_28) k) ?_
  show own_Run p e below Φ (s₁.setTop (mkF m 31 #[.val (.ref a1), .val (.int p2), .val (.int (2 : Int32)), .val (.int (x0 &&& (31 : Int32))), .val (.int (1 : Int32)), .val (.int x1)] [(.int (192 : Int32)), (.int x1)]))
  refine own_go (fun t k => XS.iand X0.here hx rfl (hb hby d4_31) rfl k) ?_
  refine own_go (fun t k => XS.sipush X0.here hx rfl (hb hby d4_32) k) ?_
  by_cases hc35 : (x1 &&& (192 : Int32)) = (128 : Int32)
  · refine own_go (fun t k => XS.icmpYes X0.here hx rfl (pc0 := 35) (pc' := 40) rfl (hb hby d4_35) rfl (teq hc35).1 (by decide) (by decide) k) ?_
    refine own_go (fun t k => XS.iloadN X0.here hx rfl (hb hby d4_40) rfl  k) ?_
    refine own_go (fun t k => XS.bipush X0.here hx rfl (hb hby d4_41) k) ?_
    show own_Run p e below Φ (s₁.setTop (mkF m 43 #[.val (.ref a1), .val (.int p2), .val (.int (2 : Int32)), .val (.int (x0 &&& (31 : Int32))), .val (.int (1 : Int32)), .val (.int x1)] [(.int (6 : Int32)), (.int (x0 &&& (31 : Int32)))]))
    refine own_go (fun t k => XS.ishl X0.here hx rfl (hb hby d4_43) rfl k) ?_
    refine own_go (fun t k => XS.iload X0.here hx rfl (hb hby d4_44) rfl  k) ?_
    refine own_go (fun t k => XS.bipush X0.here hx rfl (hb hby d4_46) k) ?_
    refine own_go (fun t k => XS.iand X0.here hx rfl (hb hby d4_48) rfl k) ?_
    refine own_go (fun t k => XS.ior X0.here hx rfl (hb hby d4_49) rfl k) ?_
    show own_Run p e below Φ (s₁.setTop (mkF m 50 #[.val (.ref a1), .val (.int p2), .val (.int (2 : Int32)), .val (.int (x0 &&& (31 : Int32))), .val (.int (1 : Int32)), .val (.int x1)] [(.int (((x0 &&& (31 : Int32)) <<< ((6 : Int32) &&& 31)) ||| (x1 &&& (63 : Int32))))]))
    refine own_go (fun t k => XS.istoreN X0.here hx rfl (hb hby d4_50) rfl (l' := #[.val (.ref a1), .val (.int p2), .val (.int (2 : Int32)), .val (.int (((x0 &&& (31 : Int32)) <<< ((6 : Int32) &&& 31)) ||| (x1 &&& (63 : Int32)))), .val (.int (1 : Int32)), .val (.int x1)]) rfl k) ?_
    refine own_go (fun t k => XS.iinc X0.here hx rfl (hb hby d4_51) rfl (l' := #[.val (.ref a1), .val (.int p2), .val (.int (2 : Int32)), .val (.int (((x0 &&& (31 : Int32)) <<< ((6 : Int32) &&& 31)) ||| (x1 &&& (63 : Int32)))), .val (.int ((1 : Int32) + (1 : Int32))), .val (.int x1)]) rfl k) ?_
    show own_Run p e below Φ (s₁.setTop (mkF m 54 #[.val (.ref a1), .val (.int p2), .val (.int (2 : Int32)), .val (.int (((x0 &&& (31 : Int32)) <<< ((6 : Int32) &&& 31)) ||| (x1 &&& (63 : Int32)))), .val (.int ((1 : Int32) + (1 : Int32))), .val (.int x1)] []))
    rw [show ((1 : Int32) + (1 : Int32)) = (2 : Int32) from by decide]
    show own_Run p e below Φ (s₁.setTop (mkF m 54 #[.val (.ref a1), .val (.int p2), .val (.int (2 : Int32)), .val (.int (((x0 &&& (31 : Int32)) <<< ((6 : Int32) &&& 31)) ||| (x1 &&& (63 : Int32)))), .val (.int (2 : Int32)), .val (.int x1)] []))
    refine own_go (fun t k => XS.goto X0.here hx rfl (pc0 := 54) (pc' := 12) rfl (hb hby d4_54) (by decide) (by decide) k) ?_
    refine own_go (fun t k => XS.iload X0.here hx rfl (hb hby d4_12) rfl  k) ?_
    refine own_go (fun t k => XS.iloadN X0.here hx rfl (hb hby d4_14) rfl  k) ?_
    refine own_go (fun t k => XS.icmpYes X0.here hx rfl (pc0 := 15) (pc' := 57) rfl (hb hby d4_15) rfl (flt (by decide : ¬ ((2 : Int32) < (2 : Int32)))).2.1 (by decide) (by decide) k) ?_
    refine own_go (fun t k => XS.iloadN X0.here hx rfl (hb hby d4_57) rfl  k) ?_
    show own_Run p e below Φ (s₁.setTop (mkF m 58 #[.val (.ref a1), .val (.int p2), .val (.int (2 : Int32)), .val (.int (((x0 &&& (31 : Int32)) <<< ((6 : Int32) &&& 31)) ||| (x1 &&& (63 : Int32)))), .val (.int (2 : Int32)), .val (.int x1)] [(.int (((x0 &&& (31 : Int32)) <<< ((6 : Int32) &&& 31)) ||| (x1 &&& (63 : Int32))))]))
    obtain ⟨T1, X1, e1, st1⟩ := getS2 X0 hx hZ hown (host := "") (Or.inl (hw _ (List.mem_of_getElem? (i := 19) rfl))) Via.refl e0 (H3.ext H2.2) (g := (mkF m 58 #[.val (.ref a1), .val (.int p2), .val (.int (2 : Int32)), .val (.int (((x0 &&& (31 : Int32)) <<< ((6 : Int32) &&& 31)) ||| (x1 &&& (63 : Int32)))), .val (.int (2 : Int32)), .val (.int x1)] [(.int (((x0 &&& (31 : Int32)) <<< ((6 : Int32) &&& 31)) ||| (x1 &&& (63 : Int32))))])) rfl (hb hby d4_58)
    refine own_go st1 ?_
    refine own_go (fun t k => XS.iloadN X1.here hx rfl (hb hby d4_61) rfl  k) ?_
    refine own_iaload X1 hx hZ e1 H4 (j := (2 : Int32)) (v := (.int (128 : Int32))) ⟨by decide, by decide⟩ rfl (g := (mkF m 62 #[.val (.ref a1), .val (.int p2), .val (.int (2 : Int32)), .val (.int (((x0 &&& (31 : Int32)) <<< ((6 : Int32) &&& 31)) ||| (x1 &&& (63 : Int32)))), .val (.int (2 : Int32)), .val (.int x1)] [(.int (2 : Int32)), (.ref w1), (.int (((x0 &&& (31 : Int32)) <<< ((6 : Int32) &&& 31)) ||| (x1 &&& (63 : Int32))))])) rfl rfl (hb hby d4_62) ?_
    by_cases hc63 : (((x0 &&& (31 : Int32)) <<< ((6 : Int32) &&& 31)) ||| (x1 &&& (63 : Int32))) < (128 : Int32)
    · refine own_go (fun t k => XS.icmpYes X1.here hx rfl (pc0 := 63) (pc' := 84) rfl (hb hby d4_63) rfl (tlt hc63).1 (by decide) (by decide) k) ?_
      refine own_go (fun t k => XS.iconst X1.here hx rfl (hb hby d4_84) k) ?_
      show own_Run p e below Φ (T1.setTop (mkF m 85 #[.val (.ref a1), .val (.int p2), .val (.int (2 : Int32)), .val (.int (((x0 &&& (31 : Int32)) <<< ((6 : Int32) &&& 31)) ||| (x1 &&& (63 : Int32)))), .val (.int (2 : Int32)), .val (.int x1)] [(.int (-1 : Int32))]))
      subst hΦ
      exact own_retI X1 hx Bd.returns hlk (hb hby d4_85) e1 ⟨(by simp only [own_dec2, own_lst, own_c2, if_true, if_false, hc35, hc63] <;> rfl), N0, rfl⟩ (by decide) (by decide)
    · refine own_go (fun t k => XS.icmpNo X1.here hx rfl (hb hby d4_63) rfl (flt hc63).1 k) ?_
      refine own_go (fun t k => XS.iloadN X1.here hx rfl (hb hby d4_66) rfl  k) ?_
      refine own_go (X1.ldcInt hx hown (mvT hZ (hw _ (List.mem_of_getElem? (i := 21) rfl))) (g := (mkF m 67 #[.val (.ref a1), .val (.int p2), .val (.int (2 : Int32)), .val (.int (((x0 &&& (31 : Int32)) <<< ((6 : Int32) &&& 31)) ||| (x1 &&& (63 : Int32)))), .val (.int (2 : Int32)), .val (.int x1)] [(.int (((x0 &&& (31 : Int32)) <<< ((6 : Int32) &&& 31)) ||| (x1 &&& (63 : Int32))))])) rfl (hb hby d4_67)) ?_
      by_cases hc69 : (((x0 &&& (31 : Int32)) <<< ((6 : Int32) &&& 31)) ||| (x1 &&& (63 : Int32))) < (55296 : Int32)
      · refine own_go (fun t k => XS.icmpYes X1.here hx rfl (pc0 := 69) (pc' := 78) rfl (hb hby d4_69) rfl (tlt hc69).1 (by decide) (by decide) k) ?_
        refine own_go (fun t k => XS.iloadN X1.here hx rfl (hb hby d4_78) rfl  k) ?_
        show own_Run p e below Φ (T1.setTop (mkF m 79 #[.val (.ref a1), .val (.int p2), .val (.int (2 : Int32)), .val (.int (((x0 &&& (31 : Int32)) <<< ((6 : Int32) &&& 31)) ||| (x1 &&& (63 : Int32)))), .val (.int (2 : Int32)), .val (.int x1)] [(.int (((x0 &&& (31 : Int32)) <<< ((6 : Int32) &&& 31)) ||| (x1 &&& (63 : Int32))))]))
        refine own_go (X1.ldcInt hx hown (mvT hZ (hw _ (List.mem_of_getElem? (i := 23) rfl))) (g := (mkF m 79 #[.val (.ref a1), .val (.int p2), .val (.int (2 : Int32)), .val (.int (((x0 &&& (31 : Int32)) <<< ((6 : Int32) &&& 31)) ||| (x1 &&& (63 : Int32)))), .val (.int (2 : Int32)), .val (.int x1)] [(.int (((x0 &&& (31 : Int32)) <<< ((6 : Int32) &&& 31)) ||| (x1 &&& (63 : Int32))))])) rfl (hb hby d4_79)) ?_
        by_cases hc81 : (1114111 : Int32) < (((x0 &&& (31 : Int32)) <<< ((6 : Int32) &&& 31)) ||| (x1 &&& (63 : Int32)))
        · refine own_go (fun t k => XS.icmpNo X1.here hx rfl (hb hby d4_81) rfl (tlt hc81).2.2.2 k) ?_
          refine own_go (fun t k => XS.iconst X1.here hx rfl (hb hby d4_84) k) ?_
          subst hΦ
          exact own_retI X1 hx Bd.returns hlk (hb hby d4_85) e1 ⟨(by simp only [own_dec2, own_lst, own_c2, if_true, if_false, hc35, hc63, hc69, hc81] <;> rfl), N0, rfl⟩ (by decide) (by decide)
        · refine own_go (fun t k => XS.icmpYes X1.here hx rfl (pc0 := 81) (pc' := 86) rfl (hb hby d4_81) rfl (flt hc81).2.2.2 (by decide) (by decide) k) ?_
          refine own_go (fun t k => XS.iloadN X1.here hx rfl (hb hby d4_86) rfl  k) ?_
          show own_Run p e below Φ (T1.setTop (mkF m 87 #[.val (.ref a1), .val (.int p2), .val (.int (2 : Int32)), .val (.int (((x0 &&& (31 : Int32)) <<< ((6 : Int32) &&& 31)) ||| (x1 &&& (63 : Int32)))), .val (.int (2 : Int32)), .val (.int x1)] [(.int (((x0 &&& (31 : Int32)) <<< ((6 : Int32) &&& 31)) ||| (x1 &&& (63 : Int32))))]))
          subst hΦ
          exact own_retI X1 hx Bd.returns hlk (hb hby d4_87) e1 ⟨(by simp only [own_dec2, own_lst, own_c2, if_true, if_false, hc35, hc63, hc69, hc81] <;> rfl), N0, rfl⟩ (by decide) (by decide)
      · refine own_go (fun t k => XS.icmpNo X1.here hx rfl (hb hby d4_69) rfl (flt hc69).1 k) ?_
        refine own_go (fun t k => XS.iloadN X1.here hx rfl (hb hby d4_72) rfl  k) ?_
        refine own_go (X1.ldcInt hx hown (mvT hZ (hw _ (List.mem_of_getElem? (i := 22) rfl))) (g := (mkF m 73 #[.val (.ref a1), .val (.int p2), .val (.int (2 : Int32)), .val (.int (((x0 &&& (31 : Int32)) <<< ((6 : Int32) &&& 31)) ||| (x1 &&& (63 : Int32)))), .val (.int (2 : Int32)), .val (.int x1)] [(.int (((x0 &&& (31 : Int32)) <<< ((6 : Int32) &&& 31)) ||| (x1 &&& (63 : Int32))))])) rfl (hb hby d4_73)) ?_
        by_cases hc75 : (57343 : Int32) < (((x0 &&& (31 : Int32)) <<< ((6 : Int32) &&& 31)) ||| (x1 &&& (63 : Int32)))
        · refine own_go (fun t k => XS.icmpNo X1.here hx rfl (hb hby d4_75) rfl (tlt hc75).2.2.2 k) ?_
          refine own_go (fun t k => XS.iloadN X1.here hx rfl (hb hby d4_78) rfl  k) ?_
          show own_Run p e below Φ (T1.setTop (mkF m 79 #[.val (.ref a1), .val (.int p2), .val (.int (2 : Int32)), .val (.int (((x0 &&& (31 : Int32)) <<< ((6 : Int32) &&& 31)) ||| (x1 &&& (63 : Int32)))), .val (.int (2 : Int32)), .val (.int x1)] [(.int (((x0 &&& (31 : Int32)) <<< ((6 : Int32) &&& 31)) ||| (x1 &&& (63 : Int32))))]))
          refine own_go (X1.ldcInt hx hown (mvT hZ (hw _ (List.mem_of_getElem? (i := 23) rfl))) (g := (mkF m 79 #[.val (.ref a1), .val (.int p2), .val (.int (2 : Int32)), .val (.int (((x0 &&& (31 : Int32)) <<< ((6 : Int32) &&& 31)) ||| (x1 &&& (63 : Int32)))), .val (.int (2 : Int32)), .val (.int x1)] [(.int (((x0 &&& (31 : Int32)) <<< ((6 : Int32) &&& 31)) ||| (x1 &&& (63 : Int32))))])) rfl (hb hby d4_79)) ?_
          by_cases hc81 : (1114111 : Int32) < (((x0 &&& (31 : Int32)) <<< ((6 : Int32) &&& 31)) ||| (x1 &&& (63 : Int32)))
          · refine own_go (fun t k => XS.icmpNo X1.here hx rfl (hb hby d4_81) rfl (tlt hc81).2.2.2 k) ?_
            refine own_go (fun t k => XS.iconst X1.here hx rfl (hb hby d4_84) k) ?_
            subst hΦ
            exact own_retI X1 hx Bd.returns hlk (hb hby d4_85) e1 ⟨(by simp only [own_dec2, own_lst, own_c2, if_true, if_false, hc35, hc63, hc69, hc75, hc81] <;> rfl), N0, rfl⟩ (by decide) (by decide)
          · refine own_go (fun t k => XS.icmpYes X1.here hx rfl (pc0 := 81) (pc' := 86) rfl (hb hby d4_81) rfl (flt hc81).2.2.2 (by decide) (by decide) k) ?_
            refine own_go (fun t k => XS.iloadN X1.here hx rfl (hb hby d4_86) rfl  k) ?_
            show own_Run p e below Φ (T1.setTop (mkF m 87 #[.val (.ref a1), .val (.int p2), .val (.int (2 : Int32)), .val (.int (((x0 &&& (31 : Int32)) <<< ((6 : Int32) &&& 31)) ||| (x1 &&& (63 : Int32)))), .val (.int (2 : Int32)), .val (.int x1)] [(.int (((x0 &&& (31 : Int32)) <<< ((6 : Int32) &&& 31)) ||| (x1 &&& (63 : Int32))))]))
            subst hΦ
            exact own_retI X1 hx Bd.returns hlk (hb hby d4_87) e1 ⟨(by simp only [own_dec2, own_lst, own_c2, if_true, if_false, hc35, hc63, hc69, hc75, hc81] <;> rfl), N0, rfl⟩ (by decide) (by decide)
        · refine own_go (fun t k => XS.icmpYes X1.here hx rfl (pc0 := 75) (pc' := 84) rfl (hb hby d4_75) rfl (flt hc75).2.2.2 (by decide) (by decide) k) ?_
          refine own_go (fun t k => XS.iconst X1.here hx rfl (hb hby d4_84) k) ?_
          subst hΦ
          exact own_retI X1 hx Bd.returns hlk (hb hby d4_85) e1 ⟨(by simp only [own_dec2, own_lst, own_c2, if_true, if_false, hc35, hc63, hc69, hc75] <;> rfl), N0, rfl⟩ (by decide) (by decide)
  · refine own_go (fun t k => XS.icmpNo X0.here hx rfl (hb hby d4_35) rfl (feq hc35).1 k) ?_
    refine own_go (fun t k => XS.iconst X0.here hx rfl (hb hby d4_38) k) ?_
    subst hΦ
    exact own_retI X0 hx Bd.returns hlk (hb hby d4_39) e0 ⟨(by simp only [own_dec2, own_lst, own_c2, if_true, if_false, hc35] <;> rfl), N0, rfl⟩ (by decide) (by decide)
set_option maxRecDepth 65536 in
set_option maxHeartbeats 40000000 in
theorem rm_dec3 (l : Launch) (Z : State) (a0 : Array Value) (hw : ∀ d ∈ tables_1, d.before a0 Z = true) (a1 : Addr) (p2 : Int32) (k1 : ClassId) (us : List Value) (d1 : Int32) (x0 : Int32) (x1 : Int32) (x2 : Int32) (w1 : Addr) (kw : ClassId) (h0 : Heap) (n0 : Nat) (H1 : Arv Z h0 a1 k1 .byte (8 : Int32) us (.int d1)) (H2 : Old Z n0 h0) (H3 : Sta Z Z.heap "com/example/templum/templum/validation/Utf8" "LEAST_OF_LENGTH" "[I" (.ref w1)) (H4 : Arv Z h0 w1 kw .int (5 : Int32) [(.int (0 : Int32)), (.int (0 : Int32)), (.int (128 : Int32)), (.int (2048 : Int32)), (.int (65536 : Int32))] (.int (0 : Int32))) (hb0 : ¬ p2 < 0 ∧ p2 < (8 : Int32)) (hv0 : us.getD p2.toNatClampNeg (.int d1) = .int x0) (hb1 : ¬ (p2 + (1 : Int32)) < 0 ∧ (p2 + (1 : Int32)) < (8 : Int32)) (hv1 : us.getD (p2 + (1 : Int32)).toNatClampNeg (.int d1) = .int x1) (hb2 : ¬ (p2 + (2 : Int32)) < 0 ∧ (p2 + (2 : Int32)) < (8 : Int32)) (hv2 : us.getD (p2 + (2 : Int32)).toNatClampNeg (.int d1) = .int x2) :
    own_Met l Z (⟨"com/example/templum/templum/validation/Utf8", "decode", "([BII)I"⟩ : MethodName) prog_118_method_3_code 6 (some .int) ({ frames := 0, cells := 0, slots := 0, locals := 0 } : Room) #[(.ref a1), (.int p2), (.int (3 : Int32))] h0 (fun v h L => v = some (.int (own_dec3 x0 x1 x2)) ∧ Fr n0 L ∧ h = h0) := by
  intro ws
  refine MetFree.of_bodySF (plainFor_of_name pn_c1) hisR ?_
  intro p e s m args below meth c s₁ Bd hml0 hP hK
  obtain ⟨rfl, hZ, hh⟩ := hP
  have hx := Bd.exec
  have hby := Bd.bytes
  have hml : c.maxLocals = 6 := hml0
  have hown : s.vm.findClass "com/example/templum/templum/validation/Utf8" = some m.cls := findClass_of_methodNamed Bd.named
  have hnm := (name_of_methodNamed Bd.named Bd.method).1
  have hlk : meth.locks = false := Bd.notSynchronized
  have X0 : Stand p l e ({ frames := 0, cells := 0, slots := 0, locals := 0 } : Room) s m #[(.ref a1), (.int p2), (.int (3 : Int32))] below meth c s₁ [] 0 0 := Stand.of_body Bd
  have e0 : s₁.heap = h0 := by rw [← hh, Bd.state]; rfl
  have N0 := Fr.nil n0
  refine own_body (Q := fun v h L => v = some (.int (own_dec3 x0 x1 x2)) ∧ Fr n0 L ∧ h = h0) ?_
  generalize hΦ : own_Fin s below _ _ _ = Φ
  refine own_cast (ef_4_RII m a1 p2 (3 : Int32)) ?_
  show own_Run p e below Φ (s₁.setTop (mkF m 0 #[.val (.ref a1), .val (.int p2), .val (.int (3 : Int32)), .unset, .unset, .unset] []))
  refine own_go (fun t k => XS.aloadN X0.here hx rfl (hb hby d4_0) rfl rfl  k) ?_
  refine own_go (fun t k => XS.iloadN X0.here hx rfl (hb hby d4_1) rfl  k) ?_
  refine own_baload X0 hx hZ e0 H1 (j := p2) (v := (.int x0)) hb0 hv0 (g := (mkF m 2 #[.val (.ref a1), .val (.int p2), .val (.int (3 : Int32)), .unset, .unset, .unset] [(.int p2), (.ref a1)])) rfl rfl (hb hby d4_2) ?_
  refine own_go (fun t k => XS.bipush X0.here hx rfl (hb hby d4_3) k) ?_
  refine own_go (fun t k => XS.iloadN X0.here hx rfl (hb hby d4_5) rfl  k) ?_
  show own_Run p e below Φ (s₁.setTop (mkF m 6 #[.val (.ref a1), .val (.int p2), .val (.int (3 : Int32)), .unset, .unset, .unset] [(.int (3 : Int32)), (.int (127 : Int32)), (.int x0)]))
  refine own_go (fun t k => XS.ishr X0.here hx rfl (hb hby d4_6) rfl k) ?_
  show own_Run p e below Φ (s₁.setTop (mkF m 7 #[.val (.ref a1), .val (.int p2), .val (.int (3 : Int32)), .unset, .unset, .unset] [(.int ((127 : Int32) >>> ((3 : Int32) &&& 31))), (.int x0)]))
  rw [show ((127 : Int32) >>> ((3 : Int32) &&& 31)) = (15 : Int32) from by decide]
  show own_Run p e below Φ (s₁.setTop (mkF m 7 #[.val (.ref a1), .val (.int p2), .val (.int (3 : Int32)), .unset, .unset, .unset] [(.int (15 : Int32)), (.int x0)]))
  refine own_go (fun t k => XS.iand X0.here hx rfl (hb hby d4_7) rfl k) ?_
  refine own_go (fun t k => XS.istoreN X0.here hx rfl (hb hby d4_8) rfl (l' := #[.val (.ref a1), .val (.int p2), .val (.int (3 : Int32)), .val (.int (x0 &&& (15 : Int32))), .unset, .unset]) rfl k) ?_
  refine own_go (fun t k => XS.iconst X0.here hx rfl (hb hby d4_9) k) ?_
  refine own_go (fun t k => XS.istore X0.here hx rfl (hb hby d4_10) rfl (l' := #[.val (.ref a1), .val (.int p2), .val (.int (3 : Int32)), .val (.int (x0 &&& (15 : Int32))), .val (.int (1 : Int32)), .unset]) rfl k) ?_
  refine own_go (fun t k => XS.iload X0.here hx rfl (hb hby d4_12) rfl  k) ?_
  show own_Run p e below Φ (s₁.setTop (mkF m 14 #[.val (.ref a1), .val (.int p2), .val (.int (3 : Int32)), .val (.int (x0 &&& (15 : Int32))), .val (.int (1 : Int32)), .unset] [(.int (1 : Int32))]))
  refine own_go (fun t k => XS.iloadN X0.here hx rfl (hb hby d4_14) rfl  k) ?_
  refine own_go (fun t k => XS.icmpNo X0.here hx rfl (hb hby d4_15) rfl (tlt (by decide : (1 : Int32) < (3 : Int32))).2.1 k) ?_
  refine own_go (fun t k => XS.aloadN X0.here hx rfl (hb hby d4_18) rfl rfl  k) ?_
  refine own_go (fun t k => XS.iloadN X0.here hx rfl (hb hby d4_19) rfl  k) ?_
  refine own_go (fun t k => XS.iload X0.here hx rfl (hb hby d4_20) rfl  k) ?_
  show own_Run p e below Φ (s₁.setTop (mkF m 22 #[.val (.ref a1), .val (.int p2), .val (.int (3 : Int32)), .val (.int (x0 &&& (15 : Int32))), .val (.int (1 : Int32)), .unset] [(.int (1 : Int32)), (.int p2), (.ref a1)]))
  refine own_go (fun t k => XS.iadd X0.here hx rfl (hb hby d4_22) rfl k) ?_
  refine own_baload X0 hx hZ e0 H1 (j := (p2 + (1 : Int32))) (v := (.int x1)) hb1 hv1 (g := (mkF m 23 #[.val (.ref a1), .val (.int p2), .val (.int (3 : Int32)), .val (.int (x0 &&& (15 : Int32))), .val (.int (1 : Int32)), .unset] [(.int (p2 + (1 : Int32))), (.ref a1)])) rfl rfl (hb hby d4_23) ?_
  refine own_go (fun t k => XS.istore X0.here hx rfl (hb hby d4_24) rfl (l' := #[.val (.ref a1), .val (.int p2), .val (.int (3 : Int32)), .val (.int (x0 &&& (15 : Int32))), .val (.int (1 : Int32)), .val (.int x1)]) rfl k) ?_
  refine own_go (fun t k => XS.iload X0.here hx rfl (hb hby d4_26) rfl  k) ?_
  refine own_go (fun t k => XS.sipush X0.here hx rfl (hb hby d4_28) k) ?_
  show own_Run p e below Φ (s₁.setTop (mkF m 31 #[.val (.ref a1), .val (.int p2), .val (.int (3 : Int32)), .val (.int (x0 &&& (15 : Int32))), .val (.int (1 : Int32)), .val (.int x1)] [(.int (192 : Int32)), (.int x1)]))
  refine own_go (fun t k => XS.iand X0.here hx rfl (hb hby d4_31) rfl k) ?_
  refine own_go (fun t k => XS.sipush X0.here hx rfl (hb hby d4_32) k) ?_
  by_cases hc35 : (x1 &&& (192 : Int32)) = (128 : Int32)
  · refine own_go (fun t k => XS.icmpYes X0.here hx rfl (pc0 := 35) (pc' := 40) rfl (hb hby d4_35) rfl (teq hc35).1 (by decide) (by decide) k) ?_
    refine own_go (fun t k => XS.iloadN X0.here hx rfl (hb hby d4_40) rfl  k) ?_
    refine own_go (fun t k => XS.bipush X0.here hx rfl (hb hby d4_41) k) ?_
    show own_Run p e below Φ (s₁.setTop (mkF m 43 #[.val (.ref a1), .val (.int p2), .val (.int (3 : Int32)), .val (.int (x0 &&& (15 : Int32))), .val (.int (1 : Int32)), .val (.int x1)] [(.int (6 : Int32)), (.int (x0 &&& (15 : Int32)))]))
    refine own_go (fun t k => XS.ishl X0.here hx rfl (hb hby d4_43) rfl k) ?_
    refine own_go (fun t k => XS.iload X0.here hx rfl (hb hby d4_44) rfl  k) ?_
    refine own_go (fun t k => XS.bipush X0.here hx rfl (hb hby d4_46) k) ?_
    refine own_go (fun t k => XS.iand X0.here hx rfl (hb hby d4_48) rfl k) ?_
    refine own_go (fun t k => XS.ior X0.here hx rfl (hb hby d4_49) rfl k) ?_
    show own_Run p e below Φ (s₁.setTop (mkF m 50 #[.val (.ref a1), .val (.int p2), .val (.int (3 : Int32)), .val (.int (x0 &&& (15 : Int32))), .val (.int (1 : Int32)), .val (.int x1)] [(.int (((x0 &&& (15 : Int32)) <<< ((6 : Int32) &&& 31)) ||| (x1 &&& (63 : Int32))))]))
    refine own_go (fun t k => XS.istoreN X0.here hx rfl (hb hby d4_50) rfl (l' := #[.val (.ref a1), .val (.int p2), .val (.int (3 : Int32)), .val (.int (((x0 &&& (15 : Int32)) <<< ((6 : Int32) &&& 31)) ||| (x1 &&& (63 : Int32)))), .val (.int (1 : Int32)), .val (.int x1)]) rfl k) ?_
    refine own_go (fun t k => XS.iinc X0.here hx rfl (hb hby d4_51) rfl (l' := #[.val (.ref a1), .val (.int p2), .val (.int (3 : Int32)), .val (.int (((x0 &&& (15 : Int32)) <<< ((6 : Int32) &&& 31)) ||| (x1 &&& (63 : Int32)))), .val (.int ((1 : Int32) + (1 : Int32))), .val (.int x1)]) rfl k) ?_
    show own_Run p e below Φ (s₁.setTop (mkF m 54 #[.val (.ref a1), .val (.int p2), .val (.int (3 : Int32)), .val (.int (((x0 &&& (15 : Int32)) <<< ((6 : Int32) &&& 31)) ||| (x1 &&& (63 : Int32)))), .val (.int ((1 : Int32) + (1 : Int32))), .val (.int x1)] []))
    rw [show ((1 : Int32) + (1 : Int32)) = (2 : Int32) from by decide]
    show own_Run p e below Φ (s₁.setTop (mkF m 54 #[.val (.ref a1), .val (.int p2), .val (.int (3 : Int32)), .val (.int (((x0 &&& (15 : Int32)) <<< ((6 : Int32) &&& 31)) ||| (x1 &&& (63 : Int32)))), .val (.int (2 : Int32)), .val (.int x1)] []))
    refine own_go (fun t k => XS.goto X0.here hx rfl (pc0 := 54) (pc' := 12) rfl (hb hby d4_54) (by decide) (by decide) k) ?_
    refine own_go (fun t k => XS.iload X0.here hx rfl (hb hby d4_12) rfl  k) ?_
    refine own_go (fun t k => XS.iloadN X0.here hx rfl (hb hby d4_14) rfl  k) ?_
    refine own_go (fun t k => XS.icmpNo X0.here hx rfl (hb hby d4_15) rfl (tlt (by decide : (2 : Int32) < (3 : Int32))).2.1 k) ?_
    refine own_go (fun t k => XS.aloadN X0.here hx rfl (hb hby d4_18) rfl rfl  k) ?_
    show own_Run p e below Φ (s₁.setTop (mkF m 19 #[.val (.ref a1), .val (.int p2), .val (.int (3 : Int32)), .val (.int (((x0 &&& (15 : Int32)) <<< ((6 : Int32) &&& 31)) ||| (x1 &&& (63 : Int32)))), .val (.int (2 : Int32)), .val (.int x1)] [(.ref a1)]))
    refine own_go (fun t k => XS.iloadN X0.here hx rfl (hb hby d4_19) rfl  k) ?_
    refine own_go (fun t k => XS.iload X0.here hx rfl (hb hby d4_20) rfl  k) ?_
    refine own_go (fun t k => XS.iadd X0.here hx rfl (hb hby d4_22) rfl k) ?_
    refine own_baload X0 hx hZ e0 H1 (j := (p2 + (2 : Int32))) (v := (.int x2)) hb2 hv2 (g := (mkF m 23 #[.val (.ref a1), .val (.int p2), .val (.int (3 : Int32)), .val (.int (((x0 &&& (15 : Int32)) <<< ((6 : Int32) &&& 31)) ||| (x1 &&& (63 : Int32)))), .val (.int (2 : Int32)), .val (.int x1)] [(.int (p2 + (2 : Int32))), (.ref a1)])) rfl rfl (hb hby d4_23) ?_
    refine own_go (fun t k => XS.istore X0.here hx rfl (hb hby d4_24) rfl (l' := #[.val (.ref a1), .val (.int p2), .val (.int (3 : Int32)), .val (.int (((x0 &&& (15 : Int32)) <<< ((6 : Int32) &&& 31)) ||| (x1 &&& (63 : Int32)))), .val (.int (2 : Int32)), .val (.int x2)]) rfl k) ?_
    show own_Run p e below Φ (s₁.setTop (mkF m 26 #[.val (.ref a1), .val (.int p2), .val (.int (3 : Int32)), .val (.int (((x0 &&& (15 : Int32)) <<< ((6 : Int32) &&& 31)) ||| (x1 &&& (63 : Int32)))), .val (.int (2 : Int32)), .val (.int x2)] []))
    refine own_go (fun t k => XS.iload X0.here hx rfl (hb hby d4_26) rfl  k) ?_
    refine own_go (fun t k => XS.sipush X0.here hx rfl (hb hby d4_28) k) ?_
    refine own_go (fun t k => XS.iand X0.here hx rfl (hb hby d4_31) rfl k) ?_
    refine own_go (fun t k => XS.sipush X0.here hx rfl (hb hby d4_32) k) ?_
    by_cases hc35_2 : (x2 &&& (192 : Int32)) = (128 : Int32)
    · refine own_go (fun t k => XS.icmpYes X0.here hx rfl (pc0 := 35) (pc' := 40) rfl (hb hby d4_35) rfl (teq hc35_2).1 (by decide) (by decide) k) ?_
      show own_Run p e below Φ (s₁.setTop (mkF m 40 #[.val (.ref a1), .val (.int p2), .val (.int (3 : Int32)), .val (.int (((x0 &&& (15 : Int32)) <<< ((6 : Int32) &&& 31)) ||| (x1 &&& (63 : Int32)))), .val (.int (2 : Int32)), .val (.int x2)] []))
      refine own_go (fun t k => XS.iloadN X0.here hx rfl (hb hby d4_40) rfl  k) ?_
      refine own_go (fun t k => XS.bipush X0.here hx rfl (hb hby d4_41) k) ?_
      refine own_go (fun t k => XS.ishl X0.here hx rfl (hb hby d4_43) rfl k) ?_
      refine own_go (fun t k => XS.iload X0.here hx rfl (hb hby d4_44) rfl  k) ?_
      refine own_go (fun t k => XS.bipush X0.here hx rfl (hb hby d4_46) k) ?_
      show own_Run p e below Φ (s₁.setTop (mkF m 48 #[.val (.ref a1), .val (.int p2), .val (.int (3 : Int32)), .val (.int (((x0 &&& (15 : Int32)) <<< ((6 : Int32) &&& 31)) ||| (x1 &&& (63 : Int32)))), .val (.int (2 : Int32)), .val (.int x2)] [(.int (63 : Int32)), (.int x2), (.int ((((x0 &&& (15 : Int32)) <<< ((6 : Int32) &&& 31)) ||| (x1 &&& (63 : Int32))) <<< ((6 : Int32) &&& 31)))]))
      refine own_go (fun t k => XS.iand X0.here hx rfl (hb hby d4_48) rfl k) ?_
      refine own_go (fun t k => XS.ior X0.here hx rfl (hb hby d4_49) rfl k) ?_
      refine own_go (fun t k => XS.istoreN X0.here hx rfl (hb hby d4_50) rfl (l' := #[.val (.ref a1), .val (.int p2), .val (.int (3 : Int32)), .val (.int (((((x0 &&& (15 : Int32)) <<< ((6 : Int32) &&& 31)) ||| (x1 &&& (63 : Int32))) <<< ((6 : Int32) &&& 31)) ||| (x2 &&& (63 : Int32)))), .val (.int (2 : Int32)), .val (.int x2)]) rfl k) ?_
      refine own_go (fun t k => XS.iinc X0.here hx rfl (hb hby d4_51) rfl (l' := #[.val (.ref a1), .val (.int p2), .val (.int (3 : Int32)), .val (.int (((((x0 &&& (15 : Int32)) <<< ((6 : Int32) &&& 31)) ||| (x1 &&& (63 : Int32))) <<< ((6 : Int32) &&& 31)) ||| (x2 &&& (63 : Int32)))), .val (.int ((2 : Int32) + (1 : Int32))), .val (.int x2)]) rfl k) ?_
      show own_Run p e below Φ (s₁.setTop (mkF m 54 #[.val (.ref a1), .val (.int p2), .val (.int (3 : Int32)), .val (.int (((((x0 &&& (15 : Int32)) <<< ((6 : Int32) &&& 31)) ||| (x1 &&& (63 : Int32))) <<< ((6 : Int32) &&& 31)) ||| (x2 &&& (63 : Int32)))), .val (.int ((2 : Int32) + (1 : Int32))), .val (.int x2)] []))
      rw [show ((2 : Int32) + (1 : Int32)) = (3 : Int32) from by decide]
      show own_Run p e below Φ (s₁.setTop (mkF m 54 #[.val (.ref a1), .val (.int p2), .val (.int (3 : Int32)), .val (.int (((((x0 &&& (15 : Int32)) <<< ((6 : Int32) &&& 31)) ||| (x1 &&& (63 : Int32))) <<< ((6 : Int32) &&& 31)) ||| (x2 &&& (63 : Int32)))), .val (.int (3 : Int32)), .val (.int x2)] []))
      refine own_go (fun t k => XS.goto X0.here hx rfl (pc0 := 54) (pc' := 12) rfl (hb hby d4_54) (by decide) (by decide) k) ?_
      refine own_go (fun t k => XS.iload X0.here hx rfl (hb hby d4_12) rfl  k) ?_
      refine own_go (fun t k => XS.iloadN X0.here hx rfl (hb hby d4_14) rfl  k) ?_
      refine own_go (fun t k => XS.icmpYes X0.here hx rfl (pc0 := 15) (pc' := 57) rfl (hb hby d4_15) rfl (flt (by decide : ¬ ((3 : Int32) < (3 : Int32)))).2.1 (by decide) (by decide) k) ?_
      refine own_go (fun t k => XS.iloadN X0.here hx rfl (hb hby d4_57) rfl  k) ?_
      show own_Run p e below Φ (s₁.setTop (mkF m 58 #[.val (.ref a1), .val (.int p2), .val (.int (3 : Int32)), .val (.int (((((x0 &&& (15 : Int32)) <<< ((6 : Int32) &&& 31)) ||| (x1 &&& (63 : Int32))) <<< ((6 : Int32) &&& 31)) ||| (x2 &&& (63 : Int32)))), .val (.int (3 : Int32)), .val (.int x2)] [(.int (((((x0 &&& (15 : Int32)) <<< ((6 : Int32) &&& 31)) ||| (x1 &&& (63 : Int32))) <<< ((6 : Int32) &&& 31)) ||| (x2 &&& (63 : Int32))))]))
      obtain ⟨T1, X1, e1, st1⟩ := getS2 X0 hx hZ hown (host := "") (Or.inl (hw _ (List.mem_of_getElem? (i := 19) rfl))) Via.refl e0 (H3.ext H2.2) (g := (mkF m 58 #[.val (.ref a1), .val (.int p2), .val (.int (3 : Int32)), .val (.int (((((x0 &&& (15 : Int32)) <<< ((6 : Int32) &&& 31)) ||| (x1 &&& (63 : Int32))) <<< ((6 : Int32) &&& 31)) ||| (x2 &&& (63 : Int32)))), .val (.int (3 : Int32)), .val (.int x2)] [(.int (((((x0 &&& (15 : Int32)) <<< ((6 : Int32) &&& 31)) ||| (x1 &&& (63 : Int32))) <<< ((6 : Int32) &&& 31)) ||| (x2 &&& (63 : Int32))))])) rfl (hb hby d4_58)
      refine own_go st1 ?_
      refine own_go (fun t k => XS.iloadN X1.here hx rfl (hb hby d4_61) rfl  k) ?_
      refine own_iaload X1 hx hZ e1 H4 (j := (3 : Int32)) (v := (.int (2048 : Int32))) ⟨by decide, by decide⟩ rfl (g := (mkF m 62 #[.val (.ref a1), .val (.int p2), .val (.int (3 : Int32)), .val (.int (((((x0 &&& (15 : Int32)) <<< ((6 : Int32) &&& 31)) ||| (x1 &&& (63 : Int32))) <<< ((6 : Int32) &&& 31)) ||| (x2 &&& (63 : Int32)))), .val (.int (3 : Int32)), .val (.int x2)] [(.int (3 : Int32)), (.ref w1), (.int (((((x0 &&& (15 : Int32)) <<< ((6 : Int32) &&& 31)) ||| (x1 &&& (63 : Int32))) <<< ((6 : Int32) &&& 31)) ||| (x2 &&& (63 : Int32))))])) rfl rfl (hb hby d4_62) ?_
      by_cases hc63 : (((((x0 &&& (15 : Int32)) <<< ((6 : Int32) &&& 31)) ||| (x1 &&& (63 : Int32))) <<< ((6 : Int32) &&& 31)) ||| (x2 &&& (63 : Int32))) < (2048 : Int32)
      · refine own_go (fun t k => XS.icmpYes X1.here hx rfl (pc0 := 63) (pc' := 84) rfl (hb hby d4_63) rfl (tlt hc63).1 (by decide) (by decide) k) ?_
        refine own_go (fun t k => XS.iconst X1.here hx rfl (hb hby d4_84) k) ?_
        show own_Run p e below Φ (T1.setTop (mkF m 85 #[.val (.ref a1), .val (.int p2), .val (.int (3 : Int32)), .val (.int (((((x0 &&& (15 : Int32)) <<< ((6 : Int32) &&& 31)) ||| (x1 &&& (63 : Int32))) <<< ((6 : Int32) &&& 31)) ||| (x2 &&& (63 : Int32)))), .val (.int (3 : Int32)), .val (.int x2)] [(.int (-1 : Int32))]))
        subst hΦ
        exact own_retI X1 hx Bd.returns hlk (hb hby d4_85) e1 ⟨(by simp only [own_dec3, own_lst, own_c3, if_true, if_false, hc35, hc35_2, hc63] <;> rfl), N0, rfl⟩ (by decide) (by decide)
      · refine own_go (fun t k => XS.icmpNo X1.here hx rfl (hb hby d4_63) rfl (flt hc63).1 k) ?_
        refine own_go (fun t k => XS.iloadN X1.here hx rfl (hb hby d4_66) rfl  k) ?_
        refine own_go (X1.ldcInt hx hown (mvT hZ (hw _ (List.mem_of_getElem? (i := 21) rfl))) (g := (mkF m 67 #[.val (.ref a1), .val (.int p2), .val (.int (3 : Int32)), .val (.int (((((x0 &&& (15 : Int32)) <<< ((6 : Int32) &&& 31)) ||| (x1 &&& (63 : Int32))) <<< ((6 : Int32) &&& 31)) ||| (x2 &&& (63 : Int32)))), .val (.int (3 : Int32)), .val (.int x2)] [(.int (((((x0 &&& (15 : Int32)) <<< ((6 : Int32) &&& 31)) ||| (x1 &&& (63 : Int32))) <<< ((6 : Int32) &&& 31)) ||| (x2 &&& (63 : Int32))))])) rfl (hb hby d4_67)) ?_
        by_cases hc69 : (((((x0 &&& (15 : Int32)) <<< ((6 : Int32) &&& 31)) ||| (x1 &&& (63 : Int32))) <<< ((6 : Int32) &&& 31)) ||| (x2 &&& (63 : Int32))) < (55296 : Int32)
        · refine own_go (fun t k => XS.icmpYes X1.here hx rfl (pc0 := 69) (pc' := 78) rfl (hb hby d4_69) rfl (tlt hc69).1 (by decide) (by decide) k) ?_
          refine own_go (fun t k => XS.iloadN X1.here hx rfl (hb hby d4_78) rfl  k) ?_
          show own_Run p e below Φ (T1.setTop (mkF m 79 #[.val (.ref a1), .val (.int p2), .val (.int (3 : Int32)), .val (.int (((((x0 &&& (15 : Int32)) <<< ((6 : Int32) &&& 31)) ||| (x1 &&& (63 : Int32))) <<< ((6 : Int32) &&& 31)) ||| (x2 &&& (63 : Int32)))), .val (.int (3 : Int32)), .val (.int x2)] [(.int (((((x0 &&& (15 : Int32)) <<< ((6 : Int32) &&& 31)) ||| (x1 &&& (63 : Int32))) <<< ((6 : Int32) &&& 31)) ||| (x2 &&& (63 : Int32))))]))
          refine own_go (X1.ldcInt hx hown (mvT hZ (hw _ (List.mem_of_getElem? (i := 23) rfl))) (g := (mkF m 79 #[.val (.ref a1), .val (.int p2), .val (.int (3 : Int32)), .val (.int (((((x0 &&& (15 : Int32)) <<< ((6 : Int32) &&& 31)) ||| (x1 &&& (63 : Int32))) <<< ((6 : Int32) &&& 31)) ||| (x2 &&& (63 : Int32)))), .val (.int (3 : Int32)), .val (.int x2)] [(.int (((((x0 &&& (15 : Int32)) <<< ((6 : Int32) &&& 31)) ||| (x1 &&& (63 : Int32))) <<< ((6 : Int32) &&& 31)) ||| (x2 &&& (63 : Int32))))])) rfl (hb hby d4_79)) ?_
          by_cases hc81 : (1114111 : Int32) < (((((x0 &&& (15 : Int32)) <<< ((6 : Int32) &&& 31)) ||| (x1 &&& (63 : Int32))) <<< ((6 : Int32) &&& 31)) ||| (x2 &&& (63 : Int32)))
          · refine own_go (fun t k => XS.icmpNo X1.here hx rfl (hb hby d4_81) rfl (tlt hc81).2.2.2 k) ?_
            refine own_go (fun t k => XS.iconst X1.here hx rfl (hb hby d4_84) k) ?_
            subst hΦ
            exact own_retI X1 hx Bd.returns hlk (hb hby d4_85) e1 ⟨(by simp only [own_dec3, own_lst, own_c3, if_true, if_false, hc35, hc35_2, hc63, hc69, hc81] <;> rfl), N0, rfl⟩ (by decide) (by decide)
          · refine own_go (fun t k => XS.icmpYes X1.here hx rfl (pc0 := 81) (pc' := 86) rfl (hb hby d4_81) rfl (flt hc81).2.2.2 (by decide) (by decide) k) ?_
            refine own_go (fun t k => XS.iloadN X1.here hx rfl (hb hby d4_86) rfl  k) ?_
            show own_Run p e below Φ (T1.setTop (mkF m 87 #[.val (.ref a1), .val (.int p2), .val (.int (3 : Int32)), .val (.int (((((x0 &&& (15 : Int32)) <<< ((6 : Int32) &&& 31)) ||| (x1 &&& (63 : Int32))) <<< ((6 : Int32) &&& 31)) ||| (x2 &&& (63 : Int32)))), .val (.int (3 : Int32)), .val (.int x2)] [(.int (((((x0 &&& (15 : Int32)) <<< ((6 : Int32) &&& 31)) ||| (x1 &&& (63 : Int32))) <<< ((6 : Int32) &&& 31)) ||| (x2 &&& (63 : Int32))))]))
            subst hΦ
            exact own_retI X1 hx Bd.returns hlk (hb hby d4_87) e1 ⟨(by simp only [own_dec3, own_lst, own_c3, if_true, if_false, hc35, hc35_2, hc63, hc69, hc81] <;> rfl), N0, rfl⟩ (by decide) (by decide)
        · refine own_go (fun t k => XS.icmpNo X1.here hx rfl (hb hby d4_69) rfl (flt hc69).1 k) ?_
          refine own_go (fun t k => XS.iloadN X1.here hx rfl (hb hby d4_72) rfl  k) ?_
          refine own_go (X1.ldcInt hx hown (mvT hZ (hw _ (List.mem_of_getElem? (i := 22) rfl))) (g := (mkF m 73 #[.val (.ref a1), .val (.int p2), .val (.int (3 : Int32)), .val (.int (((((x0 &&& (15 : Int32)) <<< ((6 : Int32) &&& 31)) ||| (x1 &&& (63 : Int32))) <<< ((6 : Int32) &&& 31)) ||| (x2 &&& (63 : Int32)))), .val (.int (3 : Int32)), .val (.int x2)] [(.int (((((x0 &&& (15 : Int32)) <<< ((6 : Int32) &&& 31)) ||| (x1 &&& (63 : Int32))) <<< ((6 : Int32) &&& 31)) ||| (x2 &&& (63 : Int32))))])) rfl (hb hby d4_73)) ?_
          by_cases hc75 : (57343 : Int32) < (((((x0 &&& (15 : Int32)) <<< ((6 : Int32) &&& 31)) ||| (x1 &&& (63 : Int32))) <<< ((6 : Int32) &&& 31)) ||| (x2 &&& (63 : Int32)))
          · refine own_go (fun t k => XS.icmpNo X1.here hx rfl (hb hby d4_75) rfl (tlt hc75).2.2.2 k) ?_
            refine own_go (fun t k => XS.iloadN X1.here hx rfl (hb hby d4_78) rfl  k) ?_
            show own_Run p e below Φ (T1.setTop (mkF m 79 #[.val (.ref a1), .val (.int p2), .val (.int (3 : Int32)), .val (.int (((((x0 &&& (15 : Int32)) <<< ((6 : Int32) &&& 31)) ||| (x1 &&& (63 : Int32))) <<< ((6 : Int32) &&& 31)) ||| (x2 &&& (63 : Int32)))), .val (.int (3 : Int32)), .val (.int x2)] [(.int (((((x0 &&& (15 : Int32)) <<< ((6 : Int32) &&& 31)) ||| (x1 &&& (63 : Int32))) <<< ((6 : Int32) &&& 31)) ||| (x2 &&& (63 : Int32))))]))
            refine own_go (X1.ldcInt hx hown (mvT hZ (hw _ (List.mem_of_getElem? (i := 23) rfl))) (g := (mkF m 79 #[.val (.ref a1), .val (.int p2), .val (.int (3 : Int32)), .val (.int (((((x0 &&& (15 : Int32)) <<< ((6 : Int32) &&& 31)) ||| (x1 &&& (63 : Int32))) <<< ((6 : Int32) &&& 31)) ||| (x2 &&& (63 : Int32)))), .val (.int (3 : Int32)), .val (.int x2)] [(.int (((((x0 &&& (15 : Int32)) <<< ((6 : Int32) &&& 31)) ||| (x1 &&& (63 : Int32))) <<< ((6 : Int32) &&& 31)) ||| (x2 &&& (63 : Int32))))])) rfl (hb hby d4_79)) ?_
            by_cases hc81 : (1114111 : Int32) < (((((x0 &&& (15 : Int32)) <<< ((6 : Int32) &&& 31)) ||| (x1 &&& (63 : Int32))) <<< ((6 : Int32) &&& 31)) ||| (x2 &&& (63 : Int32)))
            · refine own_go (fun t k => XS.icmpNo X1.here hx rfl (hb hby d4_81) rfl (tlt hc81).2.2.2 k) ?_
              refine own_go (fun t k => XS.iconst X1.here hx rfl (hb hby d4_84) k) ?_
              subst hΦ
              exact own_retI X1 hx Bd.returns hlk (hb hby d4_85) e1 ⟨(by simp only [own_dec3, own_lst, own_c3, if_true, if_false, hc35, hc35_2, hc63, hc69, hc75, hc81] <;> rfl), N0, rfl⟩ (by decide) (by decide)
            · refine own_go (fun t k => XS.icmpYes X1.here hx rfl (pc0 := 81) (pc' := 86) rfl (hb hby d4_81) rfl (flt hc81).2.2.2 (by decide) (by decide) k) ?_
              refine own_go (fun t k => XS.iloadN X1.here hx rfl (hb hby d4_86) rfl  k) ?_
              show own_Run p e below Φ (T1.setTop (mkF m 87 #[.val (.ref a1), .val (.int p2), .val (.int (3 : Int32)), .val (.int (((((x0 &&& (15 : Int32)) <<< ((6 : Int32) &&& 31)) ||| (x1 &&& (63 : Int32))) <<< ((6 : Int32) &&& 31)) ||| (x2 &&& (63 : Int32)))), .val (.int (3 : Int32)), .val (.int x2)] [(.int (((((x0 &&& (15 : Int32)) <<< ((6 : Int32) &&& 31)) ||| (x1 &&& (63 : Int32))) <<< ((6 : Int32) &&& 31)) ||| (x2 &&& (63 : Int32))))]))
              subst hΦ
              exact own_retI X1 hx Bd.returns hlk (hb hby d4_87) e1 ⟨(by simp only [own_dec3, own_lst, own_c3, if_true, if_false, hc35, hc35_2, hc63, hc69, hc75, hc81] <;> rfl), N0, rfl⟩ (by decide) (by decide)
          · refine own_go (fun t k => XS.icmpYes X1.here hx rfl (pc0 := 75) (pc' := 84) rfl (hb hby d4_75) rfl (flt hc75).2.2.2 (by decide) (by decide) k) ?_
            refine own_go (fun t k => XS.iconst X1.here hx rfl (hb hby d4_84) k) ?_
            subst hΦ
            exact own_retI X1 hx Bd.returns hlk (hb hby d4_85) e1 ⟨(by simp only [own_dec3, own_lst, own_c3, if_true, if_false, hc35, hc35_2, hc63, hc69, hc75] <;> rfl), N0, rfl⟩ (by decide) (by decide)
    · refine own_go (fun t k => XS.icmpNo X0.here hx rfl (hb hby d4_35) rfl (feq hc35_2).1 k) ?_
      refine own_go (fun t k => XS.iconst X0.here hx rfl (hb hby d4_38) k) ?_
      subst hΦ
      exact own_retI X0 hx Bd.returns hlk (hb hby d4_39) e0 ⟨(by simp only [own_dec3, own_lst, own_c3, if_true, if_false, hc35, hc35_2] <;> rfl), N0, rfl⟩ (by decide) (by decide)
  · refine own_go (fun t k => XS.icmpNo X0.here hx rfl (hb hby d4_35) rfl (feq hc35).1 k) ?_
    show own_Run p e below Φ (s₁.setTop (mkF m 38 #[.val (.ref a1), .val (.int p2), .val (.int (3 : Int32)), .val (.int (x0 &&& (15 : Int32))), .val (.int (1 : Int32)), .val (.int x1)] []))
    refine own_go (fun t k => XS.iconst X0.here hx rfl (hb hby d4_38) k) ?_
    subst hΦ
    exact own_retI X0 hx Bd.returns hlk (hb hby d4_39) e0 ⟨(by simp only [own_dec3, own_lst, own_c3, if_true, if_false, hc35] <;> rfl), N0, rfl⟩ (by decide) (by decide)
set_option maxRecDepth 65536 in
set_option maxHeartbeats 40000000 in
theorem rm_dec4 (l : Launch) (Z : State) (a0 : Array Value) (hw : ∀ d ∈ tables_1, d.before a0 Z = true) (a1 : Addr) (p2 : Int32) (k1 : ClassId) (us : List Value) (d1 : Int32) (x0 : Int32) (x1 : Int32) (x2 : Int32) (x3 : Int32) (w1 : Addr) (kw : ClassId) (h0 : Heap) (n0 : Nat) (H1 : Arv Z h0 a1 k1 .byte (8 : Int32) us (.int d1)) (H2 : Old Z n0 h0) (H3 : Sta Z Z.heap "com/example/templum/templum/validation/Utf8" "LEAST_OF_LENGTH" "[I" (.ref w1)) (H4 : Arv Z h0 w1 kw .int (5 : Int32) [(.int (0 : Int32)), (.int (0 : Int32)), (.int (128 : Int32)), (.int (2048 : Int32)), (.int (65536 : Int32))] (.int (0 : Int32))) (hb0 : ¬ p2 < 0 ∧ p2 < (8 : Int32)) (hv0 : us.getD p2.toNatClampNeg (.int d1) = .int x0) (hb1 : ¬ (p2 + (1 : Int32)) < 0 ∧ (p2 + (1 : Int32)) < (8 : Int32)) (hv1 : us.getD (p2 + (1 : Int32)).toNatClampNeg (.int d1) = .int x1) (hb2 : ¬ (p2 + (2 : Int32)) < 0 ∧ (p2 + (2 : Int32)) < (8 : Int32)) (hv2 : us.getD (p2 + (2 : Int32)).toNatClampNeg (.int d1) = .int x2) (hb3 : ¬ (p2 + (3 : Int32)) < 0 ∧ (p2 + (3 : Int32)) < (8 : Int32)) (hv3 : us.getD (p2 + (3 : Int32)).toNatClampNeg (.int d1) = .int x3) :
    own_Met l Z (⟨"com/example/templum/templum/validation/Utf8", "decode", "([BII)I"⟩ : MethodName) prog_118_method_3_code 6 (some .int) ({ frames := 0, cells := 0, slots := 0, locals := 0 } : Room) #[(.ref a1), (.int p2), (.int (4 : Int32))] h0 (fun v h L => v = some (.int (own_dec4 x0 x1 x2 x3)) ∧ Fr n0 L ∧ h = h0) := by
  intro ws
  refine MetFree.of_bodySF (plainFor_of_name pn_c1) hisR ?_
  intro p e s m args below meth c s₁ Bd hml0 hP hK
  obtain ⟨rfl, hZ, hh⟩ := hP
  have hx := Bd.exec
  have hby := Bd.bytes
  have hml : c.maxLocals = 6 := hml0
  have hown : s.vm.findClass "com/example/templum/templum/validation/Utf8" = some m.cls := findClass_of_methodNamed Bd.named
  have hnm := (name_of_methodNamed Bd.named Bd.method).1
  have hlk : meth.locks = false := Bd.notSynchronized
  have X0 : Stand p l e ({ frames := 0, cells := 0, slots := 0, locals := 0 } : Room) s m #[(.ref a1), (.int p2), (.int (4 : Int32))] below meth c s₁ [] 0 0 := Stand.of_body Bd
  have e0 : s₁.heap = h0 := by rw [← hh, Bd.state]; rfl
  have N0 := Fr.nil n0
  refine own_body (Q := fun v h L => v = some (.int (own_dec4 x0 x1 x2 x3)) ∧ Fr n0 L ∧ h = h0) ?_
  generalize hΦ : own_Fin s below _ _ _ = Φ
  refine own_cast (ef_4_RII m a1 p2 (4 : Int32)) ?_
  show own_Run p e below Φ (s₁.setTop (mkF m 0 #[.val (.ref a1), .val (.int p2), .val (.int (4 : Int32)), .unset, .unset, .unset] []))
  refine own_go (fun t k => XS.aloadN X0.here hx rfl (hb hby d4_0) rfl rfl  k) ?_
  refine own_go (fun t k => XS.iloadN X0.here hx rfl (hb hby d4_1) rfl  k) ?_
  refine own_baload X0 hx hZ e0 H1 (j := p2) (v := (.int x0)) hb0 hv0 (g := (mkF m 2 #[.val (.ref a1), .val (.int p2), .val (.int (4 : Int32)), .unset, .unset, .unset] [(.int p2), (.ref a1)])) rfl rfl (hb hby d4_2) ?_
  refine own_go (fun t k => XS.bipush X0.here hx rfl (hb hby d4_3) k) ?_
  refine own_go (fun t k => XS.iloadN X0.here hx rfl (hb hby d4_5) rfl  k) ?_
  show own_Run p e below Φ (s₁.setTop (mkF m 6 #[.val (.ref a1), .val (.int p2), .val (.int (4 : Int32)), .unset, .unset, .unset] [(.int (4 : Int32)), (.int (127 : Int32)), (.int x0)]))
  refine own_go (fun t k => XS.ishr X0.here hx rfl (hb hby d4_6) rfl k) ?_
  show own_Run p e below Φ (s₁.setTop (mkF m 7 #[.val (.ref a1), .val (.int p2), .val (.int (4 : Int32)), .unset, .unset, .unset] [(.int ((127 : Int32) >>> ((4 : Int32) &&& 31))), (.int x0)]))
  rw [show ((127 : Int32) >>> ((4 : Int32) &&& 31)) = (7 : Int32) from by decide]
  show own_Run p e below Φ (s₁.setTop (mkF m 7 #[.val (.ref a1), .val (.int p2), .val (.int (4 : Int32)), .unset, .unset, .unset] [(.int (7 : Int32)), (.int x0)]))
  refine own_go (fun t k => XS.iand X0.here hx rfl (hb hby d4_7) rfl k) ?_
  refine own_go (fun t k => XS.istoreN X0.here hx rfl (hb hby d4_8) rfl (l' := #[.val (.ref a1), .val (.int p2), .val (.int (4 : Int32)), .val (.int (x0 &&& (7 : Int32))), .unset, .unset]) rfl k) ?_
  refine own_go (fun t k => XS.iconst X0.here hx rfl (hb hby d4_9) k) ?_
  refine own_go (fun t k => XS.istore X0.here hx rfl (hb hby d4_10) rfl (l' := #[.val (.ref a1), .val (.int p2), .val (.int (4 : Int32)), .val (.int (x0 &&& (7 : Int32))), .val (.int (1 : Int32)), .unset]) rfl k) ?_
  refine own_go (fun t k => XS.iload X0.here hx rfl (hb hby d4_12) rfl  k) ?_
  show own_Run p e below Φ (s₁.setTop (mkF m 14 #[.val (.ref a1), .val (.int p2), .val (.int (4 : Int32)), .val (.int (x0 &&& (7 : Int32))), .val (.int (1 : Int32)), .unset] [(.int (1 : Int32))]))
  refine own_go (fun t k => XS.iloadN X0.here hx rfl (hb hby d4_14) rfl  k) ?_
  refine own_go (fun t k => XS.icmpNo X0.here hx rfl (hb hby d4_15) rfl (tlt (by decide : (1 : Int32) < (4 : Int32))).2.1 k) ?_
  refine own_go (fun t k => XS.aloadN X0.here hx rfl (hb hby d4_18) rfl rfl  k) ?_
  refine own_go (fun t k => XS.iloadN X0.here hx rfl (hb hby d4_19) rfl  k) ?_
  refine own_go (fun t k => XS.iload X0.here hx rfl (hb hby d4_20) rfl  k) ?_
  show own_Run p e below Φ (s₁.setTop (mkF m 22 #[.val (.ref a1), .val (.int p2), .val (.int (4 : Int32)), .val (.int (x0 &&& (7 : Int32))), .val (.int (1 : Int32)), .unset] [(.int (1 : Int32)), (.int p2), (.ref a1)]))
  refine own_go (fun t k => XS.iadd X0.here hx rfl (hb hby d4_22) rfl k) ?_
  refine own_baload X0 hx hZ e0 H1 (j := (p2 + (1 : Int32))) (v := (.int x1)) hb1 hv1 (g := (mkF m 23 #[.val (.ref a1), .val (.int p2), .val (.int (4 : Int32)), .val (.int (x0 &&& (7 : Int32))), .val (.int (1 : Int32)), .unset] [(.int (p2 + (1 : Int32))), (.ref a1)])) rfl rfl (hb hby d4_23) ?_
  refine own_go (fun t k => XS.istore X0.here hx rfl (hb hby d4_24) rfl (l' := #[.val (.ref a1), .val (.int p2), .val (.int (4 : Int32)), .val (.int (x0 &&& (7 : Int32))), .val (.int (1 : Int32)), .val (.int x1)]) rfl k) ?_
  refine own_go (fun t k => XS.iload X0.here hx rfl (hb hby d4_26) rfl  k) ?_
  refine own_go (fun t k => XS.sipush X0.here hx rfl (hb hby d4_28) k) ?_
  show own_Run p e below Φ (s₁.setTop (mkF m 31 #[.val (.ref a1), .val (.int p2), .val (.int (4 : Int32)), .val (.int (x0 &&& (7 : Int32))), .val (.int (1 : Int32)), .val (.int x1)] [(.int (192 : Int32)), (.int x1)]))
  refine own_go (fun t k => XS.iand X0.here hx rfl (hb hby d4_31) rfl k) ?_
  refine own_go (fun t k => XS.sipush X0.here hx rfl (hb hby d4_32) k) ?_
  by_cases hc35 : (x1 &&& (192 : Int32)) = (128 : Int32)
  · refine own_go (fun t k => XS.icmpYes X0.here hx rfl (pc0 := 35) (pc' := 40) rfl (hb hby d4_35) rfl (teq hc35).1 (by decide) (by decide) k) ?_
    refine own_go (fun t k => XS.iloadN X0.here hx rfl (hb hby d4_40) rfl  k) ?_
    refine own_go (fun t k => XS.bipush X0.here hx rfl (hb hby d4_41) k) ?_
    show own_Run p e below Φ (s₁.setTop (mkF m 43 #[.val (.ref a1), .val (.int p2), .val (.int (4 : Int32)), .val (.int (x0 &&& (7 : Int32))), .val (.int (1 : Int32)), .val (.int x1)] [(.int (6 : Int32)), (.int (x0 &&& (7 : Int32)))]))
    refine own_go (fun t k => XS.ishl X0.here hx rfl (hb hby d4_43) rfl k) ?_
    refine own_go (fun t k => XS.iload X0.here hx rfl (hb hby d4_44) rfl  k) ?_
    refine own_go (fun t k => XS.bipush X0.here hx rfl (hb hby d4_46) k) ?_
    refine own_go (fun t k => XS.iand X0.here hx rfl (hb hby d4_48) rfl k) ?_
    refine own_go (fun t k => XS.ior X0.here hx rfl (hb hby d4_49) rfl k) ?_
    show own_Run p e below Φ (s₁.setTop (mkF m 50 #[.val (.ref a1), .val (.int p2), .val (.int (4 : Int32)), .val (.int (x0 &&& (7 : Int32))), .val (.int (1 : Int32)), .val (.int x1)] [(.int (((x0 &&& (7 : Int32)) <<< ((6 : Int32) &&& 31)) ||| (x1 &&& (63 : Int32))))]))
    refine own_go (fun t k => XS.istoreN X0.here hx rfl (hb hby d4_50) rfl (l' := #[.val (.ref a1), .val (.int p2), .val (.int (4 : Int32)), .val (.int (((x0 &&& (7 : Int32)) <<< ((6 : Int32) &&& 31)) ||| (x1 &&& (63 : Int32)))), .val (.int (1 : Int32)), .val (.int x1)]) rfl k) ?_
    refine own_go (fun t k => XS.iinc X0.here hx rfl (hb hby d4_51) rfl (l' := #[.val (.ref a1), .val (.int p2), .val (.int (4 : Int32)), .val (.int (((x0 &&& (7 : Int32)) <<< ((6 : Int32) &&& 31)) ||| (x1 &&& (63 : Int32)))), .val (.int ((1 : Int32) + (1 : Int32))), .val (.int x1)]) rfl k) ?_
    show own_Run p e below Φ (s₁.setTop (mkF m 54 #[.val (.ref a1), .val (.int p2), .val (.int (4 : Int32)), .val (.int (((x0 &&& (7 : Int32)) <<< ((6 : Int32) &&& 31)) ||| (x1 &&& (63 : Int32)))), .val (.int ((1 : Int32) + (1 : Int32))), .val (.int x1)] []))
    rw [show ((1 : Int32) + (1 : Int32)) = (2 : Int32) from by decide]
    show own_Run p e below Φ (s₁.setTop (mkF m 54 #[.val (.ref a1), .val (.int p2), .val (.int (4 : Int32)), .val (.int (((x0 &&& (7 : Int32)) <<< ((6 : Int32) &&& 31)) ||| (x1 &&& (63 : Int32)))), .val (.int (2 : Int32)), .val (.int x1)] []))
    refine own_go (fun t k => XS.goto X0.here hx rfl (pc0 := 54) (pc' := 12) rfl (hb hby d4_54) (by decide) (by decide) k) ?_
    refine own_go (fun t k => XS.iload X0.here hx rfl (hb hby d4_12) rfl  k) ?_
    refine own_go (fun t k => XS.iloadN X0.here hx rfl (hb hby d4_14) rfl  k) ?_
    refine own_go (fun t k => XS.icmpNo X0.here hx rfl (hb hby d4_15) rfl (tlt (by decide : (2 : Int32) < (4 : Int32))).2.1 k) ?_
    refine own_go (fun t k => XS.aloadN X0.here hx rfl (hb hby d4_18) rfl rfl  k) ?_
    show own_Run p e below Φ (s₁.setTop (mkF m 19 #[.val (.ref a1), .val (.int p2), .val (.int (4 : Int32)), .val (.int (((x0 &&& (7 : Int32)) <<< ((6 : Int32) &&& 31)) ||| (x1 &&& (63 : Int32)))), .val (.int (2 : Int32)), .val (.int x1)] [(.ref a1)]))
    refine own_go (fun t k => XS.iloadN X0.here hx rfl (hb hby d4_19) rfl  k) ?_
    refine own_go (fun t k => XS.iload X0.here hx rfl (hb hby d4_20) rfl  k) ?_
    refine own_go (fun t k => XS.iadd X0.here hx rfl (hb hby d4_22) rfl k) ?_
    refine own_baload X0 hx hZ e0 H1 (j := (p2 + (2 : Int32))) (v := (.int x2)) hb2 hv2 (g := (mkF m 23 #[.val (.ref a1), .val (.int p2), .val (.int (4 : Int32)), .val (.int (((x0 &&& (7 : Int32)) <<< ((6 : Int32) &&& 31)) ||| (x1 &&& (63 : Int32)))), .val (.int (2 : Int32)), .val (.int x1)] [(.int (p2 + (2 : Int32))), (.ref a1)])) rfl rfl (hb hby d4_23) ?_
    refine own_go (fun t k => XS.istore X0.here hx rfl (hb hby d4_24) rfl (l' := #[.val (.ref a1), .val (.int p2), .val (.int (4 : Int32)), .val (.int (((x0 &&& (7 : Int32)) <<< ((6 : Int32) &&& 31)) ||| (x1 &&& (63 : Int32)))), .val (.int (2 : Int32)), .val (.int x2)]) rfl k) ?_
    show own_Run p e below Φ (s₁.setTop (mkF m 26 #[.val (.ref a1), .val (.int p2), .val (.int (4 : Int32)), .val (.int (((x0 &&& (7 : Int32)) <<< ((6 : Int32) &&& 31)) ||| (x1 &&& (63 : Int32)))), .val (.int (2 : Int32)), .val (.int x2)] []))
    refine own_go (fun t k => XS.iload X0.here hx rfl (hb hby d4_26) rfl  k) ?_
    refine own_go (fun t k => XS.sipush X0.here hx rfl (hb hby d4_28) k) ?_
    refine own_go (fun t k => XS.iand X0.here hx rfl (hb hby d4_31) rfl k) ?_
    refine own_go (fun t k => XS.sipush X0.here hx rfl (hb hby d4_32) k) ?_
    by_cases hc35_2 : (x2 &&& (192 : Int32)) = (128 : Int32)
    · refine own_go (fun t k => XS.icmpYes X0.here hx rfl (pc0 := 35) (pc' := 40) rfl (hb hby d4_35) rfl (teq hc35_2).1 (by decide) (by decide) k) ?_
      show own_Run p e below Φ (s₁.setTop (mkF m 40 #[.val (.ref a1), .val (.int p2), .val (.int (4 : Int32)), .val (.int (((x0 &&& (7 : Int32)) <<< ((6 : Int32) &&& 31)) ||| (x1 &&& (63 : Int32)))), .val (.int (2 : Int32)), .val (.int x2)] []))
      refine own_go (fun t k => XS.iloadN X0.here hx rfl (hb hby d4_40) rfl  k) ?_
      refine own_go (fun t k => XS.bipush X0.here hx rfl (hb hby d4_41) k) ?_
      refine own_go (fun t k => XS.ishl X0.here hx rfl (hb hby d4_43) rfl k) ?_
      refine own_go (fun t k => XS.iload X0.here hx rfl (hb hby d4_44) rfl  k) ?_
      refine own_go (fun t k => XS.bipush X0.here hx rfl (hb hby d4_46) k) ?_
      show own_Run p e below Φ (s₁.setTop (mkF m 48 #[.val (.ref a1), .val (.int p2), .val (.int (4 : Int32)), .val (.int (((x0 &&& (7 : Int32)) <<< ((6 : Int32) &&& 31)) ||| (x1 &&& (63 : Int32)))), .val (.int (2 : Int32)), .val (.int x2)] [(.int (63 : Int32)), (.int x2), (.int ((((x0 &&& (7 : Int32)) <<< ((6 : Int32) &&& 31)) ||| (x1 &&& (63 : Int32))) <<< ((6 : Int32) &&& 31)))]))
      refine own_go (fun t k => XS.iand X0.here hx rfl (hb hby d4_48) rfl k) ?_
      refine own_go (fun t k => XS.ior X0.here hx rfl (hb hby d4_49) rfl k) ?_
      refine own_go (fun t k => XS.istoreN X0.here hx rfl (hb hby d4_50) rfl (l' := #[.val (.ref a1), .val (.int p2), .val (.int (4 : Int32)), .val (.int (((((x0 &&& (7 : Int32)) <<< ((6 : Int32) &&& 31)) ||| (x1 &&& (63 : Int32))) <<< ((6 : Int32) &&& 31)) ||| (x2 &&& (63 : Int32)))), .val (.int (2 : Int32)), .val (.int x2)]) rfl k) ?_
      refine own_go (fun t k => XS.iinc X0.here hx rfl (hb hby d4_51) rfl (l' := #[.val (.ref a1), .val (.int p2), .val (.int (4 : Int32)), .val (.int (((((x0 &&& (7 : Int32)) <<< ((6 : Int32) &&& 31)) ||| (x1 &&& (63 : Int32))) <<< ((6 : Int32) &&& 31)) ||| (x2 &&& (63 : Int32)))), .val (.int ((2 : Int32) + (1 : Int32))), .val (.int x2)]) rfl k) ?_
      show own_Run p e below Φ (s₁.setTop (mkF m 54 #[.val (.ref a1), .val (.int p2), .val (.int (4 : Int32)), .val (.int (((((x0 &&& (7 : Int32)) <<< ((6 : Int32) &&& 31)) ||| (x1 &&& (63 : Int32))) <<< ((6 : Int32) &&& 31)) ||| (x2 &&& (63 : Int32)))), .val (.int ((2 : Int32) + (1 : Int32))), .val (.int x2)] []))
      rw [show ((2 : Int32) + (1 : Int32)) = (3 : Int32) from by decide]
      show own_Run p e below Φ (s₁.setTop (mkF m 54 #[.val (.ref a1), .val (.int p2), .val (.int (4 : Int32)), .val (.int (((((x0 &&& (7 : Int32)) <<< ((6 : Int32) &&& 31)) ||| (x1 &&& (63 : Int32))) <<< ((6 : Int32) &&& 31)) ||| (x2 &&& (63 : Int32)))), .val (.int (3 : Int32)), .val (.int x2)] []))
      refine own_go (fun t k => XS.goto X0.here hx rfl (pc0 := 54) (pc' := 12) rfl (hb hby d4_54) (by decide) (by decide) k) ?_
      refine own_go (fun t k => XS.iload X0.here hx rfl (hb hby d4_12) rfl  k) ?_
      refine own_go (fun t k => XS.iloadN X0.here hx rfl (hb hby d4_14) rfl  k) ?_
      refine own_go (fun t k => XS.icmpNo X0.here hx rfl (hb hby d4_15) rfl (tlt (by decide : (3 : Int32) < (4 : Int32))).2.1 k) ?_
      refine own_go (fun t k => XS.aloadN X0.here hx rfl (hb hby d4_18) rfl rfl  k) ?_
      show own_Run p e below Φ (s₁.setTop (mkF m 19 #[.val (.ref a1), .val (.int p2), .val (.int (4 : Int32)), .val (.int (((((x0 &&& (7 : Int32)) <<< ((6 : Int32) &&& 31)) ||| (x1 &&& (63 : Int32))) <<< ((6 : Int32) &&& 31)) ||| (x2 &&& (63 : Int32)))), .val (.int (3 : Int32)), .val (.int x2)] [(.ref a1)]))
      refine own_go (fun t k => XS.iloadN X0.here hx rfl (hb hby d4_19) rfl  k) ?_
      refine own_go (fun t k => XS.iload X0.here hx rfl (hb hby d4_20) rfl  k) ?_
      refine own_go (fun t k => XS.iadd X0.here hx rfl (hb hby d4_22) rfl k) ?_
      refine own_baload X0 hx hZ e0 H1 (j := (p2 + (3 : Int32))) (v := (.int x3)) hb3 hv3 (g := (mkF m 23 #[.val (.ref a1), .val (.int p2), .val (.int (4 : Int32)), .val (.int (((((x0 &&& (7 : Int32)) <<< ((6 : Int32) &&& 31)) ||| (x1 &&& (63 : Int32))) <<< ((6 : Int32) &&& 31)) ||| (x2 &&& (63 : Int32)))), .val (.int (3 : Int32)), .val (.int x2)] [(.int (p2 + (3 : Int32))), (.ref a1)])) rfl rfl (hb hby d4_23) ?_
      refine own_go (fun t k => XS.istore X0.here hx rfl (hb hby d4_24) rfl (l' := #[.val (.ref a1), .val (.int p2), .val (.int (4 : Int32)), .val (.int (((((x0 &&& (7 : Int32)) <<< ((6 : Int32) &&& 31)) ||| (x1 &&& (63 : Int32))) <<< ((6 : Int32) &&& 31)) ||| (x2 &&& (63 : Int32)))), .val (.int (3 : Int32)), .val (.int x3)]) rfl k) ?_
      show own_Run p e below Φ (s₁.setTop (mkF m 26 #[.val (.ref a1), .val (.int p2), .val (.int (4 : Int32)), .val (.int (((((x0 &&& (7 : Int32)) <<< ((6 : Int32) &&& 31)) ||| (x1 &&& (63 : Int32))) <<< ((6 : Int32) &&& 31)) ||| (x2 &&& (63 : Int32)))), .val (.int (3 : Int32)), .val (.int x3)] []))
      refine own_go (fun t k => XS.iload X0.here hx rfl (hb hby d4_26) rfl  k) ?_
      refine own_go (fun t k => XS.sipush X0.here hx rfl (hb hby d4_28) k) ?_
      refine own_go (fun t k => XS.iand X0.here hx rfl (hb hby d4_31) rfl k) ?_
      refine own_go (fun t k => XS.sipush X0.here hx rfl (hb hby d4_32) k) ?_
      by_cases hc35_3 : (x3 &&& (192 : Int32)) = (128 : Int32)
      · refine own_go (fun t k => XS.icmpYes X0.here hx rfl (pc0 := 35) (pc' := 40) rfl (hb hby d4_35) rfl (teq hc35_3).1 (by decide) (by decide) k) ?_
        show own_Run p e below Φ (s₁.setTop (mkF m 40 #[.val (.ref a1), .val (.int p2), .val (.int (4 : Int32)), .val (.int (((((x0 &&& (7 : Int32)) <<< ((6 : Int32) &&& 31)) ||| (x1 &&& (63 : Int32))) <<< ((6 : Int32) &&& 31)) ||| (x2 &&& (63 : Int32)))), .val (.int (3 : Int32)), .val (.int x3)] []))
        refine own_go (fun t k => XS.iloadN X0.here hx rfl (hb hby d4_40) rfl  k) ?_
        refine own_go (fun t k => XS.bipush X0.here hx rfl (hb hby d4_41) k) ?_
        refine own_go (fun t k => XS.ishl X0.here hx rfl (hb hby d4_43) rfl k) ?_
        refine own_go (fun t k => XS.iload X0.here hx rfl (hb hby d4_44) rfl  k) ?_
        refine own_go (fun t k => XS.bipush X0.here hx rfl (hb hby d4_46) k) ?_
        show own_Run p e below Φ (s₁.setTop (mkF m 48 #[.val (.ref a1), .val (.int p2), .val (.int (4 : Int32)), .val (.int (((((x0 &&& (7 : Int32)) <<< ((6 : Int32) &&& 31)) ||| (x1 &&& (63 : Int32))) <<< ((6 : Int32) &&& 31)) ||| (x2 &&& (63 : Int32)))), .val (.int (3 : Int32)), .val (.int x3)] [(.int (63 : Int32)), (.int x3), (.int ((((((x0 &&& (7 : Int32)) <<< ((6 : Int32) &&& 31)) ||| (x1 &&& (63 : Int32))) <<< ((6 : Int32) &&& 31)) ||| (x2 &&& (63 : Int32))) <<< ((6 : Int32) &&& 31)))]))
        refine own_go (fun t k => XS.iand X0.here hx rfl (hb hby d4_48) rfl k) ?_
        refine own_go (fun t k => XS.ior X0.here hx rfl (hb hby d4_49) rfl k) ?_
        refine own_go (fun t k => XS.istoreN X0.here hx rfl (hb hby d4_50) rfl (l' := #[.val (.ref a1), .val (.int p2), .val (.int (4 : Int32)), .val (.int (((((((x0 &&& (7 : Int32)) <<< ((6 : Int32) &&& 31)) ||| (x1 &&& (63 : Int32))) <<< ((6 : Int32) &&& 31)) ||| (x2 &&& (63 : Int32))) <<< ((6 : Int32) &&& 31)) ||| (x3 &&& (63 : Int32)))), .val (.int (3 : Int32)), .val (.int x3)]) rfl k) ?_
        refine own_go (fun t k => XS.iinc X0.here hx rfl (hb hby d4_51) rfl (l' := #[.val (.ref a1), .val (.int p2), .val (.int (4 : Int32)), .val (.int (((((((x0 &&& (7 : Int32)) <<< ((6 : Int32) &&& 31)) ||| (x1 &&& (63 : Int32))) <<< ((6 : Int32) &&& 31)) ||| (x2 &&& (63 : Int32))) <<< ((6 : Int32) &&& 31)) ||| (x3 &&& (63 : Int32)))), .val (.int ((3 : Int32) + (1 : Int32))), .val (.int x3)]) rfl k) ?_
        show own_Run p e below Φ (s₁.setTop (mkF m 54 #[.val (.ref a1), .val (.int p2), .val (.int (4 : Int32)), .val (.int (((((((x0 &&& (7 : Int32)) <<< ((6 : Int32) &&& 31)) ||| (x1 &&& (63 : Int32))) <<< ((6 : Int32) &&& 31)) ||| (x2 &&& (63 : Int32))) <<< ((6 : Int32) &&& 31)) ||| (x3 &&& (63 : Int32)))), .val (.int ((3 : Int32) + (1 : Int32))), .val (.int x3)] []))
        rw [show ((3 : Int32) + (1 : Int32)) = (4 : Int32) from by decide]
        show own_Run p e below Φ (s₁.setTop (mkF m 54 #[.val (.ref a1), .val (.int p2), .val (.int (4 : Int32)), .val (.int (((((((x0 &&& (7 : Int32)) <<< ((6 : Int32) &&& 31)) ||| (x1 &&& (63 : Int32))) <<< ((6 : Int32) &&& 31)) ||| (x2 &&& (63 : Int32))) <<< ((6 : Int32) &&& 31)) ||| (x3 &&& (63 : Int32)))), .val (.int (4 : Int32)), .val (.int x3)] []))
        refine own_go (fun t k => XS.goto X0.here hx rfl (pc0 := 54) (pc' := 12) rfl (hb hby d4_54) (by decide) (by decide) k) ?_
        refine own_go (fun t k => XS.iload X0.here hx rfl (hb hby d4_12) rfl  k) ?_
        refine own_go (fun t k => XS.iloadN X0.here hx rfl (hb hby d4_14) rfl  k) ?_
        refine own_go (fun t k => XS.icmpYes X0.here hx rfl (pc0 := 15) (pc' := 57) rfl (hb hby d4_15) rfl (flt (by decide : ¬ ((4 : Int32) < (4 : Int32)))).2.1 (by decide) (by decide) k) ?_
        refine own_go (fun t k => XS.iloadN X0.here hx rfl (hb hby d4_57) rfl  k) ?_
        show own_Run p e below Φ (s₁.setTop (mkF m 58 #[.val (.ref a1), .val (.int p2), .val (.int (4 : Int32)), .val (.int (((((((x0 &&& (7 : Int32)) <<< ((6 : Int32) &&& 31)) ||| (x1 &&& (63 : Int32))) <<< ((6 : Int32) &&& 31)) ||| (x2 &&& (63 : Int32))) <<< ((6 : Int32) &&& 31)) ||| (x3 &&& (63 : Int32)))), .val (.int (4 : Int32)), .val (.int x3)] [(.int (((((((x0 &&& (7 : Int32)) <<< ((6 : Int32) &&& 31)) ||| (x1 &&& (63 : Int32))) <<< ((6 : Int32) &&& 31)) ||| (x2 &&& (63 : Int32))) <<< ((6 : Int32) &&& 31)) ||| (x3 &&& (63 : Int32))))]))
        obtain ⟨T1, X1, e1, st1⟩ := getS2 X0 hx hZ hown (host := "") (Or.inl (hw _ (List.mem_of_getElem? (i := 19) rfl))) Via.refl e0 (H3.ext H2.2) (g := (mkF m 58 #[.val (.ref a1), .val (.int p2), .val (.int (4 : Int32)), .val (.int (((((((x0 &&& (7 : Int32)) <<< ((6 : Int32) &&& 31)) ||| (x1 &&& (63 : Int32))) <<< ((6 : Int32) &&& 31)) ||| (x2 &&& (63 : Int32))) <<< ((6 : Int32) &&& 31)) ||| (x3 &&& (63 : Int32)))), .val (.int (4 : Int32)), .val (.int x3)] [(.int (((((((x0 &&& (7 : Int32)) <<< ((6 : Int32) &&& 31)) ||| (x1 &&& (63 : Int32))) <<< ((6 : Int32) &&& 31)) ||| (x2 &&& (63 : Int32))) <<< ((6 : Int32) &&& 31)) ||| (x3 &&& (63 : Int32))))])) rfl (hb hby d4_58)
        refine own_go st1 ?_
        refine own_go (fun t k => XS.iloadN X1.here hx rfl (hb hby d4_61) rfl  k) ?_
        refine own_iaload X1 hx hZ e1 H4 (j := (4 : Int32)) (v := (.int (65536 : Int32))) ⟨by decide, by decide⟩ rfl (g := (mkF m 62 #[.val (.ref a1), .val (.int p2), .val (.int (4 : Int32)), .val (.int (((((((x0 &&& (7 : Int32)) <<< ((6 : Int32) &&& 31)) ||| (x1 &&& (63 : Int32))) <<< ((6 : Int32) &&& 31)) ||| (x2 &&& (63 : Int32))) <<< ((6 : Int32) &&& 31)) ||| (x3 &&& (63 : Int32)))), .val (.int (4 : Int32)), .val (.int x3)] [(.int (4 : Int32)), (.ref w1), (.int (((((((x0 &&& (7 : Int32)) <<< ((6 : Int32) &&& 31)) ||| (x1 &&& (63 : Int32))) <<< ((6 : Int32) &&& 31)) ||| (x2 &&& (63 : Int32))) <<< ((6 : Int32) &&& 31)) ||| (x3 &&& (63 : Int32))))])) rfl rfl (hb hby d4_62) ?_
        by_cases hc63 : (((((((x0 &&& (7 : Int32)) <<< ((6 : Int32) &&& 31)) ||| (x1 &&& (63 : Int32))) <<< ((6 : Int32) &&& 31)) ||| (x2 &&& (63 : Int32))) <<< ((6 : Int32) &&& 31)) ||| (x3 &&& (63 : Int32))) < (65536 : Int32)
        · refine own_go (fun t k => XS.icmpYes X1.here hx rfl (pc0 := 63) (pc' := 84) rfl (hb hby d4_63) rfl (tlt hc63).1 (by decide) (by decide) k) ?_
          refine own_go (fun t k => XS.iconst X1.here hx rfl (hb hby d4_84) k) ?_
          show own_Run p e below Φ (T1.setTop (mkF m 85 #[.val (.ref a1), .val (.int p2), .val (.int (4 : Int32)), .val (.int (((((((x0 &&& (7 : Int32)) <<< ((6 : Int32) &&& 31)) ||| (x1 &&& (63 : Int32))) <<< ((6 : Int32) &&& 31)) ||| (x2 &&& (63 : Int32))) <<< ((6 : Int32) &&& 31)) ||| (x3 &&& (63 : Int32)))), .val (.int (4 : Int32)), .val (.int x3)] [(.int (-1 : Int32))]))
          subst hΦ
          exact own_retI X1 hx Bd.returns hlk (hb hby d4_85) e1 ⟨(by simp only [own_dec4, own_lst, own_c4, if_true, if_false, hc35, hc35_2, hc35_3, hc63] <;> rfl), N0, rfl⟩ (by decide) (by decide)
        · refine own_go (fun t k => XS.icmpNo X1.here hx rfl (hb hby d4_63) rfl (flt hc63).1 k) ?_
          refine own_go (fun t k => XS.iloadN X1.here hx rfl (hb hby d4_66) rfl  k) ?_
          refine own_go (X1.ldcInt hx hown (mvT hZ (hw _ (List.mem_of_getElem? (i := 21) rfl))) (g := (mkF m 67 #[.val (.ref a1), .val (.int p2), .val (.int (4 : Int32)), .val (.int (((((((x0 &&& (7 : Int32)) <<< ((6 : Int32) &&& 31)) ||| (x1 &&& (63 : Int32))) <<< ((6 : Int32) &&& 31)) ||| (x2 &&& (63 : Int32))) <<< ((6 : Int32) &&& 31)) ||| (x3 &&& (63 : Int32)))), .val (.int (4 : Int32)), .val (.int x3)] [(.int (((((((x0 &&& (7 : Int32)) <<< ((6 : Int32) &&& 31)) ||| (x1 &&& (63 : Int32))) <<< ((6 : Int32) &&& 31)) ||| (x2 &&& (63 : Int32))) <<< ((6 : Int32) &&& 31)) ||| (x3 &&& (63 : Int32))))])) rfl (hb hby d4_67)) ?_
          by_cases hc69 : (((((((x0 &&& (7 : Int32)) <<< ((6 : Int32) &&& 31)) ||| (x1 &&& (63 : Int32))) <<< ((6 : Int32) &&& 31)) ||| (x2 &&& (63 : Int32))) <<< ((6 : Int32) &&& 31)) ||| (x3 &&& (63 : Int32))) < (55296 : Int32)
          · refine own_go (fun t k => XS.icmpYes X1.here hx rfl (pc0 := 69) (pc' := 78) rfl (hb hby d4_69) rfl (tlt hc69).1 (by decide) (by decide) k) ?_
            refine own_go (fun t k => XS.iloadN X1.here hx rfl (hb hby d4_78) rfl  k) ?_
            show own_Run p e below Φ (T1.setTop (mkF m 79 #[.val (.ref a1), .val (.int p2), .val (.int (4 : Int32)), .val (.int (((((((x0 &&& (7 : Int32)) <<< ((6 : Int32) &&& 31)) ||| (x1 &&& (63 : Int32))) <<< ((6 : Int32) &&& 31)) ||| (x2 &&& (63 : Int32))) <<< ((6 : Int32) &&& 31)) ||| (x3 &&& (63 : Int32)))), .val (.int (4 : Int32)), .val (.int x3)] [(.int (((((((x0 &&& (7 : Int32)) <<< ((6 : Int32) &&& 31)) ||| (x1 &&& (63 : Int32))) <<< ((6 : Int32) &&& 31)) ||| (x2 &&& (63 : Int32))) <<< ((6 : Int32) &&& 31)) ||| (x3 &&& (63 : Int32))))]))
            refine own_go (X1.ldcInt hx hown (mvT hZ (hw _ (List.mem_of_getElem? (i := 23) rfl))) (g := (mkF m 79 #[.val (.ref a1), .val (.int p2), .val (.int (4 : Int32)), .val (.int (((((((x0 &&& (7 : Int32)) <<< ((6 : Int32) &&& 31)) ||| (x1 &&& (63 : Int32))) <<< ((6 : Int32) &&& 31)) ||| (x2 &&& (63 : Int32))) <<< ((6 : Int32) &&& 31)) ||| (x3 &&& (63 : Int32)))), .val (.int (4 : Int32)), .val (.int x3)] [(.int (((((((x0 &&& (7 : Int32)) <<< ((6 : Int32) &&& 31)) ||| (x1 &&& (63 : Int32))) <<< ((6 : Int32) &&& 31)) ||| (x2 &&& (63 : Int32))) <<< ((6 : Int32) &&& 31)) ||| (x3 &&& (63 : Int32))))])) rfl (hb hby d4_79)) ?_
            by_cases hc81 : (1114111 : Int32) < (((((((x0 &&& (7 : Int32)) <<< ((6 : Int32) &&& 31)) ||| (x1 &&& (63 : Int32))) <<< ((6 : Int32) &&& 31)) ||| (x2 &&& (63 : Int32))) <<< ((6 : Int32) &&& 31)) ||| (x3 &&& (63 : Int32)))
            · refine own_go (fun t k => XS.icmpNo X1.here hx rfl (hb hby d4_81) rfl (tlt hc81).2.2.2 k) ?_
              refine own_go (fun t k => XS.iconst X1.here hx rfl (hb hby d4_84) k) ?_
              subst hΦ
              exact own_retI X1 hx Bd.returns hlk (hb hby d4_85) e1 ⟨(by simp only [own_dec4, own_lst, own_c4, if_true, if_false, hc35, hc35_2, hc35_3, hc63, hc69, hc81] <;> rfl), N0, rfl⟩ (by decide) (by decide)
            · refine own_go (fun t k => XS.icmpYes X1.here hx rfl (pc0 := 81) (pc' := 86) rfl (hb hby d4_81) rfl (flt hc81).2.2.2 (by decide) (by decide) k) ?_
              refine own_go (fun t k => XS.iloadN X1.here hx rfl (hb hby d4_86) rfl  k) ?_
              show own_Run p e below Φ (T1.setTop (mkF m 87 #[.val (.ref a1), .val (.int p2), .val (.int (4 : Int32)), .val (.int (((((((x0 &&& (7 : Int32)) <<< ((6 : Int32) &&& 31)) ||| (x1 &&& (63 : Int32))) <<< ((6 : Int32) &&& 31)) ||| (x2 &&& (63 : Int32))) <<< ((6 : Int32) &&& 31)) ||| (x3 &&& (63 : Int32)))), .val (.int (4 : Int32)), .val (.int x3)] [(.int (((((((x0 &&& (7 : Int32)) <<< ((6 : Int32) &&& 31)) ||| (x1 &&& (63 : Int32))) <<< ((6 : Int32) &&& 31)) ||| (x2 &&& (63 : Int32))) <<< ((6 : Int32) &&& 31)) ||| (x3 &&& (63 : Int32))))]))
              subst hΦ
              exact own_retI X1 hx Bd.returns hlk (hb hby d4_87) e1 ⟨(by simp only [own_dec4, own_lst, own_c4, if_true, if_false, hc35, hc35_2, hc35_3, hc63, hc69, hc81] <;> rfl), N0, rfl⟩ (by decide) (by decide)
          · refine own_go (fun t k => XS.icmpNo X1.here hx rfl (hb hby d4_69) rfl (flt hc69).1 k) ?_
            refine own_go (fun t k => XS.iloadN X1.here hx rfl (hb hby d4_72) rfl  k) ?_
            refine own_go (X1.ldcInt hx hown (mvT hZ (hw _ (List.mem_of_getElem? (i := 22) rfl))) (g := (mkF m 73 #[.val (.ref a1), .val (.int p2), .val (.int (4 : Int32)), .val (.int (((((((x0 &&& (7 : Int32)) <<< ((6 : Int32) &&& 31)) ||| (x1 &&& (63 : Int32))) <<< ((6 : Int32) &&& 31)) ||| (x2 &&& (63 : Int32))) <<< ((6 : Int32) &&& 31)) ||| (x3 &&& (63 : Int32)))), .val (.int (4 : Int32)), .val (.int x3)] [(.int (((((((x0 &&& (7 : Int32)) <<< ((6 : Int32) &&& 31)) ||| (x1 &&& (63 : Int32))) <<< ((6 : Int32) &&& 31)) ||| (x2 &&& (63 : Int32))) <<< ((6 : Int32) &&& 31)) ||| (x3 &&& (63 : Int32))))])) rfl (hb hby d4_73)) ?_
            by_cases hc75 : (57343 : Int32) < (((((((x0 &&& (7 : Int32)) <<< ((6 : Int32) &&& 31)) ||| (x1 &&& (63 : Int32))) <<< ((6 : Int32) &&& 31)) ||| (x2 &&& (63 : Int32))) <<< ((6 : Int32) &&& 31)) ||| (x3 &&& (63 : Int32)))
            · refine own_go (fun t k => XS.icmpNo X1.here hx rfl (hb hby d4_75) rfl (tlt hc75).2.2.2 k) ?_
              refine own_go (fun t k => XS.iloadN X1.here hx rfl (hb hby d4_78) rfl  k) ?_
              show own_Run p e below Φ (T1.setTop (mkF m 79 #[.val (.ref a1), .val (.int p2), .val (.int (4 : Int32)), .val (.int (((((((x0 &&& (7 : Int32)) <<< ((6 : Int32) &&& 31)) ||| (x1 &&& (63 : Int32))) <<< ((6 : Int32) &&& 31)) ||| (x2 &&& (63 : Int32))) <<< ((6 : Int32) &&& 31)) ||| (x3 &&& (63 : Int32)))), .val (.int (4 : Int32)), .val (.int x3)] [(.int (((((((x0 &&& (7 : Int32)) <<< ((6 : Int32) &&& 31)) ||| (x1 &&& (63 : Int32))) <<< ((6 : Int32) &&& 31)) ||| (x2 &&& (63 : Int32))) <<< ((6 : Int32) &&& 31)) ||| (x3 &&& (63 : Int32))))]))
              refine own_go (X1.ldcInt hx hown (mvT hZ (hw _ (List.mem_of_getElem? (i := 23) rfl))) (g := (mkF m 79 #[.val (.ref a1), .val (.int p2), .val (.int (4 : Int32)), .val (.int (((((((x0 &&& (7 : Int32)) <<< ((6 : Int32) &&& 31)) ||| (x1 &&& (63 : Int32))) <<< ((6 : Int32) &&& 31)) ||| (x2 &&& (63 : Int32))) <<< ((6 : Int32) &&& 31)) ||| (x3 &&& (63 : Int32)))), .val (.int (4 : Int32)), .val (.int x3)] [(.int (((((((x0 &&& (7 : Int32)) <<< ((6 : Int32) &&& 31)) ||| (x1 &&& (63 : Int32))) <<< ((6 : Int32) &&& 31)) ||| (x2 &&& (63 : Int32))) <<< ((6 : Int32) &&& 31)) ||| (x3 &&& (63 : Int32))))])) rfl (hb hby d4_79)) ?_
              by_cases hc81 : (1114111 : Int32) < (((((((x0 &&& (7 : Int32)) <<< ((6 : Int32) &&& 31)) ||| (x1 &&& (63 : Int32))) <<< ((6 : Int32) &&& 31)) ||| (x2 &&& (63 : Int32))) <<< ((6 : Int32) &&& 31)) ||| (x3 &&& (63 : Int32)))
              · refine own_go (fun t k => XS.icmpNo X1.here hx rfl (hb hby d4_81) rfl (tlt hc81).2.2.2 k) ?_
                refine own_go (fun t k => XS.iconst X1.here hx rfl (hb hby d4_84) k) ?_
                subst hΦ
                exact own_retI X1 hx Bd.returns hlk (hb hby d4_85) e1 ⟨(by simp only [own_dec4, own_lst, own_c4, if_true, if_false, hc35, hc35_2, hc35_3, hc63, hc69, hc75, hc81] <;> rfl), N0, rfl⟩ (by decide) (by decide)
              · refine own_go (fun t k => XS.icmpYes X1.here hx rfl (pc0 := 81) (pc' := 86) rfl (hb hby d4_81) rfl (flt hc81).2.2.2 (by decide) (by decide) k) ?_
                refine own_go (fun t k => XS.iloadN X1.here hx rfl (hb hby d4_86) rfl  k) ?_
                show own_Run p e below Φ (T1.setTop (mkF m 87 #[.val (.ref a1), .val (.int p2), .val (.int (4 : Int32)), .val (.int (((((((x0 &&& (7 : Int32)) <<< ((6 : Int32) &&& 31)) ||| (x1 &&& (63 : Int32))) <<< ((6 : Int32) &&& 31)) ||| (x2 &&& (63 : Int32))) <<< ((6 : Int32) &&& 31)) ||| (x3 &&& (63 : Int32)))), .val (.int (4 : Int32)), .val (.int x3)] [(.int (((((((x0 &&& (7 : Int32)) <<< ((6 : Int32) &&& 31)) ||| (x1 &&& (63 : Int32))) <<< ((6 : Int32) &&& 31)) ||| (x2 &&& (63 : Int32))) <<< ((6 : Int32) &&& 31)) ||| (x3 &&& (63 : Int32))))]))
                subst hΦ
                exact own_retI X1 hx Bd.returns hlk (hb hby d4_87) e1 ⟨(by simp only [own_dec4, own_lst, own_c4, if_true, if_false, hc35, hc35_2, hc35_3, hc63, hc69, hc75, hc81] <;> rfl), N0, rfl⟩ (by decide) (by decide)
            · refine own_go (fun t k => XS.icmpYes X1.here hx rfl (pc0 := 75) (pc' := 84) rfl (hb hby d4_75) rfl (flt hc75).2.2.2 (by decide) (by decide) k) ?_
              refine own_go (fun t k => XS.iconst X1.here hx rfl (hb hby d4_84) k) ?_
              subst hΦ
              exact own_retI X1 hx Bd.returns hlk (hb hby d4_85) e1 ⟨(by simp only [own_dec4, own_lst, own_c4, if_true, if_false, hc35, hc35_2, hc35_3, hc63, hc69, hc75] <;> rfl), N0, rfl⟩ (by decide) (by decide)
      · refine own_go (fun t k => XS.icmpNo X0.here hx rfl (hb hby d4_35) rfl (feq hc35_3).1 k) ?_
        refine own_go (fun t k => XS.iconst X0.here hx rfl (hb hby d4_38) k) ?_
        subst hΦ
        exact own_retI X0 hx Bd.returns hlk (hb hby d4_39) e0 ⟨(by simp only [own_dec4, own_lst, own_c4, if_true, if_false, hc35, hc35_2, hc35_3] <;> rfl), N0, rfl⟩ (by decide) (by decide)
    · refine own_go (fun t k => XS.icmpNo X0.here hx rfl (hb hby d4_35) rfl (feq hc35_2).1 k) ?_
      show own_Run p e below Φ (s₁.setTop (mkF m 38 #[.val (.ref a1), .val (.int p2), .val (.int (4 : Int32)), .val (.int (((x0 &&& (7 : Int32)) <<< ((6 : Int32) &&& 31)) ||| (x1 &&& (63 : Int32)))), .val (.int (2 : Int32)), .val (.int x2)] []))
      refine own_go (fun t k => XS.iconst X0.here hx rfl (hb hby d4_38) k) ?_
      subst hΦ
      exact own_retI X0 hx Bd.returns hlk (hb hby d4_39) e0 ⟨(by simp only [own_dec4, own_lst, own_c4, if_true, if_false, hc35, hc35_2] <;> rfl), N0, rfl⟩ (by decide) (by decide)
  · refine own_go (fun t k => XS.icmpNo X0.here hx rfl (hb hby d4_35) rfl (feq hc35).1 k) ?_
    refine own_go (fun t k => XS.iconst X0.here hx rfl (hb hby d4_38) k) ?_
    subst hΦ
    exact own_retI X0 hx Bd.returns hlk (hb hby d4_39) e0 ⟨(by simp only [own_dec4, own_lst, own_c4, if_true, if_false, hc35] <;> rfl), N0, rfl⟩ (by decide) (by decide)
theorem pd_0 : parseMethodDescriptor "(I[BI)I" = some ⟨[.int, (.array .byte), .int], some .int⟩ := by decide +kernel
theorem pd_1 : parseMethodDescriptor "([BIIIB)Z" = some ⟨[(.array .byte), .int, .int, .int, .byte], some .boolean⟩ := by decide +kernel
theorem pd_2 : parseMethodDescriptor "(B)I" = some ⟨[.byte], some .int⟩ := by decide +kernel
theorem pd_3 : parseMethodDescriptor "([BII)I" = some ⟨[(.array .byte), .int, .int], some .int⟩ := by decide +kernel
theorem ef_0_IIII (m : MethodId) (x0 : Int32) (x1 : Int32) (x2 : Int32) (x3 : Int32) : entryFrame m #[(.int x0), (.int x1), (.int x2), (.int x3)] maxLocals = mkF m 0 #[.val (.int x0), .val (.int x1), .val (.int x2), .val (.int x3), .unset, .unset, .unset, .unset, .unset, .unset, .unset, .unset] [] := by first | (simp [entryFrame, mkF, argsToLocals, Value.category, maxLocals]; done) | rfl
set_option maxRecDepth 65536 in
set_option maxHeartbeats 40000000 in
theorem rm_law (l : Launch) (Z : State) (a0 : Array Value) (hw : ∀ d ∈ tables_1, d.before a0 Z = true) (p1 : Int32) (p2 : Int32) (p3 : Int32) (p4 : Int32) (w1 : Addr) (kw : ClassId) (h0 : Heap) (n0 : Nat) (Z0 : n0 ≤ h0.size) (O0 : Old Z n0 h0) (S0 : Sta Z Z.heap "com/example/templum/templum/validation/Utf8" "LEAST_OF_LENGTH" "[I" (.ref w1)) (V0 : Arv Z Z.heap w1 kw .int (5 : Int32) [(.int (0 : Int32)), (.int (0 : Int32)), (.int (128 : Int32)), (.int (2048 : Int32)), (.int (65536 : Int32))] (.int (0 : Int32))) :
    own_Met l Z x code maxLocals ret room_1 #[(.int p1), (.int p2), (.int p3), (.int p4)] h0 (fun v h L => v = some (.int 1) ∧ Fr n0 L) := by
  intro ws
  refine MetFree.of_bodySF (plainFor_of_name pn_c0) hisR ?_
  intro p e s m args below meth c s₁ Bd hml0 hP hK
  obtain ⟨rfl, hZ, hh⟩ := hP
  have hx := Bd.exec
  have hby := Bd.bytes
  have hml : c.maxLocals = 12 := hml0
  have hown : s.vm.findClass "com/example/templum/templum/validation/Utf8EncodePinLaw" = some m.cls := findClass_of_methodNamed Bd.named
  have hnm := (name_of_methodNamed Bd.named Bd.method).1
  have hlk : meth.locks = false := Bd.notSynchronized
  have X0 : Stand p l e room_1 s m #[(.int p1), (.int p2), (.int p3), (.int p4)] below meth c s₁ [] 0 0 := Stand.of_body Bd
  have e0 : s₁.heap = h0 := by rw [← hh, Bd.state]; rfl
  have N0 := Fr.nil n0
  refine own_body (Q := fun v h L => v = some (.int 1) ∧ Fr n0 L) ?_
  generalize hΦ : own_Fin s below _ _ _ = Φ
  refine own_cast (ef_0_IIII m p1 p2 p3 p4) ?_
  show own_Run p e below Φ (s₁.setTop (mkF m 0 #[.val (.int p1), .val (.int p2), .val (.int p3), .val (.int p4), .unset, .unset, .unset, .unset, .unset, .unset, .unset, .unset] []))
  refine own_go (fun t k => XS.iloadN X0.here hx rfl (hb hby at_0) rfl  k) ?_
  refine own_go (fun t k => XS.iconst X0.here hx rfl (hb hby at_1) k) ?_
  refine own_go (fun t k => XS.iand X0.here hx rfl (hb hby at_2) rfl k) ?_
  refine own_go (fun t k => XS.istore X0.here hx rfl (hb hby at_3) rfl (l' := #[.val (.int p1), .val (.int p2), .val (.int p3), .val (.int p4), .val (.int (p1 &&& (3 : Int32))), .unset, .unset, .unset, .unset, .unset, .unset, .unset]) rfl k) ?_
  refine own_go (fun t k => XS.iloadN X0.here hx rfl (hb hby at_5) rfl  k) ?_
  show own_Run p e below Φ (s₁.setTop (mkF m 6 #[.val (.int p1), .val (.int p2), .val (.int p3), .val (.int p4), .val (.int (p1 &&& (3 : Int32))), .unset, .unset, .unset, .unset, .unset, .unset, .unset] [(.int p2)]))
  refine own_go (X0.ldcInt hx hown (mvT hZ (hw _ (List.mem_of_getElem? (i := 0) rfl))) (g := (mkF m 6 #[.val (.int p1), .val (.int p2), .val (.int p3), .val (.int p4), .val (.int (p1 &&& (3 : Int32))), .unset, .unset, .unset, .unset, .unset, .unset, .unset] [(.int p2)])) rfl (hb hby at_6)) ?_
  refine own_go (fun t k => XS.iand X0.here hx rfl (hb hby at_8) rfl k) ?_
  refine own_go (fun t k => XS.istore X0.here hx rfl (hb hby at_9) rfl (l' := #[.val (.int p1), .val (.int p2), .val (.int p3), .val (.int p4), .val (.int (p1 &&& (3 : Int32))), .val (.int (p2 &&& (2147483647 : Int32))), .unset, .unset, .unset, .unset, .unset, .unset]) rfl k) ?_
  show own_Run p e below Φ (s₁.setTop (mkF m 11 #[.val (.int p1), .val (.int p2), .val (.int p3), .val (.int p4), .val (.int (p1 &&& (3 : Int32))), .val (.int (p2 &&& (2147483647 : Int32))), .unset, .unset, .unset, .unset, .unset, .unset] []))
  rcases own_and3 p1 with e1 | e1 | e1 | e1
  · rw [e1]
    show own_Run p e below Φ (s₁.setTop (mkF m 11 #[.val (.int p1), .val (.int p2), .val (.int p3), .val (.int p4), .val (.int (0 : Int32)), .val (.int (p2 &&& (2147483647 : Int32))), .unset, .unset, .unset, .unset, .unset, .unset] []))
    refine own_go (fun t k => XS.iload X0.here hx rfl (hb hby at_11) rfl  k) ?_
    refine own_go (fun t k => XS.ifNo X0.here hx rfl (hb hby at_13) rfl ((if0 _ _).trans (teq (rfl : (0 : Int32) = (0 : Int32))).2) k) ?_
    refine own_go (fun t k => XS.iloadN X0.here hx rfl (hb hby at_16) rfl  k) ?_
    refine own_go (fun t k => XS.bipush X0.here hx rfl (hb hby at_17) k) ?_
    refine own_go (fun t k => XS.iand X0.here hx rfl (hb hby at_19) rfl k) ?_
    show own_Run p e below Φ (s₁.setTop (mkF m 20 #[.val (.int p1), .val (.int p2), .val (.int p3), .val (.int p4), .val (.int (0 : Int32)), .val (.int (p2 &&& (2147483647 : Int32))), .unset, .unset, .unset, .unset, .unset, .unset] [(.int (p2 &&& (127 : Int32)))]))
    refine own_go (fun t k => XS.istore X0.here hx rfl (hb hby at_20) rfl (l' := #[.val (.int p1), .val (.int p2), .val (.int p3), .val (.int p4), .val (.int (0 : Int32)), .val (.int (p2 &&& (2147483647 : Int32))), .val (.int (p2 &&& (127 : Int32))), .unset, .unset, .unset, .unset, .unset]) rfl k) ?_
    refine own_go (fun t k => XS.goto X0.here hx rfl (pc0 := 22) (pc' := 91) rfl (hb hby at_22) (by decide) (by decide) k) ?_
    show own_Run p e below Φ (s₁.setTop (mkF m 91 #[.val (.int p1), .val (.int p2), .val (.int p3), .val (.int p4), .val (.int (0 : Int32)), .val (.int (p2 &&& (2147483647 : Int32))), .val (.int (p2 &&& (127 : Int32))), .unset, .unset, .unset, .unset, .unset] []))
    have hcp := own_q0 p2
    generalize ecp : (p2 &&& (127 : Int32)) = cp at hcp ⊢
    show own_Run p e below Φ (s₁.setTop (mkF m 91 #[.val (.int p1), .val (.int p2), .val (.int p3), .val (.int p4), .val (.int (0 : Int32)), .val (.int (p2 &&& (2147483647 : Int32))), .val (.int cp), .unset, .unset, .unset, .unset, .unset] []))
    refine own_go (fun t k => XS.iloadN X0.here hx rfl (hb hby at_91) rfl  k) ?_
    refine own_go (fun t k => XS.iconst X0.here hx rfl (hb hby at_92) k) ?_
    refine own_go (fun t k => XS.iand X0.here hx rfl (hb hby at_93) rfl k) ?_
    refine own_go (fun t k => XS.istore X0.here hx rfl (hb hby at_94) rfl (l' := #[.val (.int p1), .val (.int p2), .val (.int p3), .val (.int p4), .val (.int (0 : Int32)), .val (.int (p2 &&& (2147483647 : Int32))), .val (.int cp), .val (.int (p3 &&& (3 : Int32))), .unset, .unset, .unset, .unset]) rfl k) ?_
    refine own_go (fun t k => XS.iloadN X0.here hx rfl (hb hby at_96) rfl  k) ?_
    show own_Run p e below Φ (s₁.setTop (mkF m 97 #[.val (.int p1), .val (.int p2), .val (.int p3), .val (.int p4), .val (.int (0 : Int32)), .val (.int (p2 &&& (2147483647 : Int32))), .val (.int cp), .val (.int (p3 &&& (3 : Int32))), .unset, .unset, .unset, .unset] [(.int p4)]))
    refine own_go (fun t k => XS.i2b X0.here hx rfl (hb hby at_97) rfl k) ?_
    refine own_go (fun t k => XS.istore X0.here hx rfl (hb hby at_98) rfl (l' := #[.val (.int p1), .val (.int p2), .val (.int p3), .val (.int p4), .val (.int (0 : Int32)), .val (.int (p2 &&& (2147483647 : Int32))), .val (.int cp), .val (.int (p3 &&& (3 : Int32))), .val (.int (p4.toInt8.toInt32)), .unset, .unset, .unset]) rfl k) ?_
    show own_Run p e below Φ (s₁.setTop (mkF m 100 #[.val (.int p1), .val (.int p2), .val (.int p3), .val (.int p4), .val (.int (0 : Int32)), .val (.int (p2 &&& (2147483647 : Int32))), .val (.int cp), .val (.int (p3 &&& (3 : Int32))), .val (.int (p4.toInt8.toInt32)), .unset, .unset, .unset] []))
    have hoff := own_and3 p3
    generalize eoff : (p3 &&& (3 : Int32)) = off at hoff ⊢
    have hfb := own_b8 p4
    generalize efb : p4.toInt8.toInt32 = fb at hfb ⊢
    show own_Run p e below Φ (s₁.setTop (mkF m 100 #[.val (.int p1), .val (.int p2), .val (.int p3), .val (.int p4), .val (.int (0 : Int32)), .val (.int (p2 &&& (2147483647 : Int32))), .val (.int cp), .val (.int off), .val (.int fb), .unset, .unset, .unset] []))
    refine own_go (fun t k => XS.bipush X0.here hx rfl (hb hby at_100) k) ?_
    refine own_newP X0 hx hZ (hw _ (List.mem_of_getElem? (i := 1) rfl)) e0 (g := (mkF m 102 #[.val (.int p1), .val (.int p2), .val (.int p3), .val (.int p4), .val (.int (0 : Int32)), .val (.int (p2 &&& (2147483647 : Int32))), .val (.int cp), .val (.int off), .val (.int fb), .unset, .unset, .unset] [(.int (8 : Int32))])) rfl (hb hby at_102) rfl (by decide) 8 (by decide) (by decide) (by decide) (by decide) 8 (fun T1 h1 k1 b1 X1 e1 E1 g1 V1 => ?_)
    replace V1 : Arv Z h1 b1 k1 .byte (8 : Int32) [(.int (0 : Int32)), (.int (0 : Int32)), (.int (0 : Int32)), (.int (0 : Int32)), (.int (0 : Int32)), (.int (0 : Int32)), (.int (0 : Int32)), (.int (0 : Int32))] (.int (0 : Int32)) := V1
    refine own_go (fun t k => XS.astore X1.here hx rfl (hb hby at_104) rfl rfl (l' := #[.val (.int p1), .val (.int p2), .val (.int p3), .val (.int p4), .val (.int (0 : Int32)), .val (.int (p2 &&& (2147483647 : Int32))), .val (.int cp), .val (.int off), .val (.int fb), .val (.ref b1), .unset, .unset]) rfl k) ?_
    refine own_go (fun t k => XS.aload X1.here hx rfl (hb hby at_106) rfl rfl  k) ?_
    refine own_go (fun t k => XS.iconst X1.here hx rfl (hb hby at_108) k) ?_
    show own_Run p e below Φ (T1.setTop (mkF m 109 #[.val (.int p1), .val (.int p2), .val (.int p3), .val (.int p4), .val (.int (0 : Int32)), .val (.int (p2 &&& (2147483647 : Int32))), .val (.int cp), .val (.int off), .val (.int fb), .val (.ref b1), .unset, .unset] [(.int (0 : Int32)), (.ref b1)]))
    refine own_go (fun t k => XS.iload X1.here hx rfl (hb hby at_109) rfl  k) ?_
    refine own_bastore X1 hx hZ e1 V1 (j := (0 : Int32)) ⟨by decide, by decide⟩ 0 rfl (Nat.le_of_ble_eq_true rfl) (g := (mkF m 111 #[.val (.int p1), .val (.int p2), .val (.int p3), .val (.int p4), .val (.int (0 : Int32)), .val (.int (p2 &&& (2147483647 : Int32))), .val (.int cp), .val (.int off), .val (.int fb), .val (.ref b1), .unset, .unset] [(.int fb), (.int (0 : Int32)), (.ref b1)])) rfl rfl (hb hby at_111) (fun T3 h3 X3 e3 W3 V3 => ?_)
    replace V3 : Arv Z h3 b1 k1 .byte (8 : Int32) [(.int (fb.toInt8.toInt32)), (.int (0 : Int32)), (.int (0 : Int32)), (.int (0 : Int32)), (.int (0 : Int32)), (.int (0 : Int32)), (.int (0 : Int32)), (.int (0 : Int32))] (.int (0 : Int32)) := V3
    have N3 := Fr.snoc X3 N0 (Nat.le_trans Z0 (Nat.le_of_eq g1.symm))
    refine own_go (fun t k => XS.aload X3.here hx rfl (hb hby at_112) rfl rfl  k) ?_
    refine own_go (fun t k => XS.iconst X3.here hx rfl (hb hby at_114) k) ?_
    refine own_go (fun t k => XS.iload X3.here hx rfl (hb hby at_115) rfl  k) ?_
    show own_Run p e below Φ (T3.setTop (mkF m 117 #[.val (.int p1), .val (.int p2), .val (.int p3), .val (.int p4), .val (.int (0 : Int32)), .val (.int (p2 &&& (2147483647 : Int32))), .val (.int cp), .val (.int off), .val (.int fb), .val (.ref b1), .unset, .unset] [(.int fb), (.int (1 : Int32)), (.ref b1)]))
    refine own_bastore X3 hx hZ e3 V3 (j := (1 : Int32)) ⟨by decide, by decide⟩ 1 rfl (Nat.le_of_ble_eq_true rfl) (g := (mkF m 117 #[.val (.int p1), .val (.int p2), .val (.int p3), .val (.int p4), .val (.int (0 : Int32)), .val (.int (p2 &&& (2147483647 : Int32))), .val (.int cp), .val (.int off), .val (.int fb), .val (.ref b1), .unset, .unset] [(.int fb), (.int (1 : Int32)), (.ref b1)])) rfl rfl (hb hby at_117) (fun T4 h4 X4 e4 W4 V4 => ?_)
    replace V4 : Arv Z h4 b1 k1 .byte (8 : Int32) [(.int (fb.toInt8.toInt32)), (.int (fb.toInt8.toInt32)), (.int (0 : Int32)), (.int (0 : Int32)), (.int (0 : Int32)), (.int (0 : Int32)), (.int (0 : Int32)), (.int (0 : Int32))] (.int (0 : Int32)) := V4
    have N4 := Fr.snoc X4 N3 (Nat.le_trans Z0 (Nat.le_of_eq g1.symm))
    refine own_go (fun t k => XS.aload X4.here hx rfl (hb hby at_118) rfl rfl  k) ?_
    refine own_go (fun t k => XS.iconst X4.here hx rfl (hb hby at_120) k) ?_
    refine own_go (fun t k => XS.iload X4.here hx rfl (hb hby at_121) rfl  k) ?_
    refine own_bastore X4 hx hZ e4 V4 (j := (2 : Int32)) ⟨by decide, by decide⟩ 2 rfl (Nat.le_of_ble_eq_true rfl) (g := (mkF m 123 #[.val (.int p1), .val (.int p2), .val (.int p3), .val (.int p4), .val (.int (0 : Int32)), .val (.int (p2 &&& (2147483647 : Int32))), .val (.int cp), .val (.int off), .val (.int fb), .val (.ref b1), .unset, .unset] [(.int fb), (.int (2 : Int32)), (.ref b1)])) rfl rfl (hb hby at_123) (fun T5 h5 X5 e5 W5 V5 => ?_)
    replace V5 : Arv Z h5 b1 k1 .byte (8 : Int32) [(.int (fb.toInt8.toInt32)), (.int (fb.toInt8.toInt32)), (.int (fb.toInt8.toInt32)), (.int (0 : Int32)), (.int (0 : Int32)), (.int (0 : Int32)), (.int (0 : Int32)), (.int (0 : Int32))] (.int (0 : Int32)) := V5
    have N5 := Fr.snoc X5 N4 (Nat.le_trans Z0 (Nat.le_of_eq g1.symm))
    show own_Run p e below Φ (T5.setTop (mkF m 124 #[.val (.int p1), .val (.int p2), .val (.int p3), .val (.int p4), .val (.int (0 : Int32)), .val (.int (p2 &&& (2147483647 : Int32))), .val (.int cp), .val (.int off), .val (.int fb), .val (.ref b1), .unset, .unset] []))
    refine own_go (fun t k => XS.aload X5.here hx rfl (hb hby at_124) rfl rfl  k) ?_
    refine own_go (fun t k => XS.iconst X5.here hx rfl (hb hby at_126) k) ?_
    refine own_go (fun t k => XS.iload X5.here hx rfl (hb hby at_127) rfl  k) ?_
    refine own_bastore X5 hx hZ e5 V5 (j := (3 : Int32)) ⟨by decide, by decide⟩ 3 rfl (Nat.le_of_ble_eq_true rfl) (g := (mkF m 129 #[.val (.int p1), .val (.int p2), .val (.int p3), .val (.int p4), .val (.int (0 : Int32)), .val (.int (p2 &&& (2147483647 : Int32))), .val (.int cp), .val (.int off), .val (.int fb), .val (.ref b1), .unset, .unset] [(.int fb), (.int (3 : Int32)), (.ref b1)])) rfl rfl (hb hby at_129) (fun T6 h6 X6 e6 W6 V6 => ?_)
    replace V6 : Arv Z h6 b1 k1 .byte (8 : Int32) [(.int (fb.toInt8.toInt32)), (.int (fb.toInt8.toInt32)), (.int (fb.toInt8.toInt32)), (.int (fb.toInt8.toInt32)), (.int (0 : Int32)), (.int (0 : Int32)), (.int (0 : Int32)), (.int (0 : Int32))] (.int (0 : Int32)) := V6
    have N6 := Fr.snoc X6 N5 (Nat.le_trans Z0 (Nat.le_of_eq g1.symm))
    refine own_go (fun t k => XS.aload X6.here hx rfl (hb hby at_130) rfl rfl  k) ?_
    show own_Run p e below Φ (T6.setTop (mkF m 132 #[.val (.int p1), .val (.int p2), .val (.int p3), .val (.int p4), .val (.int (0 : Int32)), .val (.int (p2 &&& (2147483647 : Int32))), .val (.int cp), .val (.int off), .val (.int fb), .val (.ref b1), .unset, .unset] [(.ref b1)]))
    refine own_go (fun t k => XS.iconst X6.here hx rfl (hb hby at_132) k) ?_
    refine own_go (fun t k => XS.iload X6.here hx rfl (hb hby at_133) rfl  k) ?_
    refine own_bastore X6 hx hZ e6 V6 (j := (4 : Int32)) ⟨by decide, by decide⟩ 4 rfl (Nat.le_of_ble_eq_true rfl) (g := (mkF m 135 #[.val (.int p1), .val (.int p2), .val (.int p3), .val (.int p4), .val (.int (0 : Int32)), .val (.int (p2 &&& (2147483647 : Int32))), .val (.int cp), .val (.int off), .val (.int fb), .val (.ref b1), .unset, .unset] [(.int fb), (.int (4 : Int32)), (.ref b1)])) rfl rfl (hb hby at_135) (fun T7 h7 X7 e7 W7 V7 => ?_)
    replace V7 : Arv Z h7 b1 k1 .byte (8 : Int32) [(.int (fb.toInt8.toInt32)), (.int (fb.toInt8.toInt32)), (.int (fb.toInt8.toInt32)), (.int (fb.toInt8.toInt32)), (.int (fb.toInt8.toInt32)), (.int (0 : Int32)), (.int (0 : Int32)), (.int (0 : Int32))] (.int (0 : Int32)) := V7
    have N7 := Fr.snoc X7 N6 (Nat.le_trans Z0 (Nat.le_of_eq g1.symm))
    refine own_go (fun t k => XS.aload X7.here hx rfl (hb hby at_136) rfl rfl  k) ?_
    refine own_go (fun t k => XS.iconst X7.here hx rfl (hb hby at_138) k) ?_
    show own_Run p e below Φ (T7.setTop (mkF m 139 #[.val (.int p1), .val (.int p2), .val (.int p3), .val (.int p4), .val (.int (0 : Int32)), .val (.int (p2 &&& (2147483647 : Int32))), .val (.int cp), .val (.int off), .val (.int fb), .val (.ref b1), .unset, .unset] [(.int (5 : Int32)), (.ref b1)]))
    refine own_go (fun t k => XS.iload X7.here hx rfl (hb hby at_139) rfl  k) ?_
    refine own_bastore X7 hx hZ e7 V7 (j := (5 : Int32)) ⟨by decide, by decide⟩ 5 rfl (Nat.le_of_ble_eq_true rfl) (g := (mkF m 141 #[.val (.int p1), .val (.int p2), .val (.int p3), .val (.int p4), .val (.int (0 : Int32)), .val (.int (p2 &&& (2147483647 : Int32))), .val (.int cp), .val (.int off), .val (.int fb), .val (.ref b1), .unset, .unset] [(.int fb), (.int (5 : Int32)), (.ref b1)])) rfl rfl (hb hby at_141) (fun T8 h8 X8 e8 W8 V8 => ?_)
    replace V8 : Arv Z h8 b1 k1 .byte (8 : Int32) [(.int (fb.toInt8.toInt32)), (.int (fb.toInt8.toInt32)), (.int (fb.toInt8.toInt32)), (.int (fb.toInt8.toInt32)), (.int (fb.toInt8.toInt32)), (.int (fb.toInt8.toInt32)), (.int (0 : Int32)), (.int (0 : Int32))] (.int (0 : Int32)) := V8
    have N8 := Fr.snoc X8 N7 (Nat.le_trans Z0 (Nat.le_of_eq g1.symm))
    refine own_go (fun t k => XS.aload X8.here hx rfl (hb hby at_142) rfl rfl  k) ?_
    refine own_go (fun t k => XS.bipush X8.here hx rfl (hb hby at_144) k) ?_
    refine own_go (fun t k => XS.iload X8.here hx rfl (hb hby at_146) rfl  k) ?_
    show own_Run p e below Φ (T8.setTop (mkF m 148 #[.val (.int p1), .val (.int p2), .val (.int p3), .val (.int p4), .val (.int (0 : Int32)), .val (.int (p2 &&& (2147483647 : Int32))), .val (.int cp), .val (.int off), .val (.int fb), .val (.ref b1), .unset, .unset] [(.int fb), (.int (6 : Int32)), (.ref b1)]))
    refine own_bastore X8 hx hZ e8 V8 (j := (6 : Int32)) ⟨by decide, by decide⟩ 6 rfl (Nat.le_of_ble_eq_true rfl) (g := (mkF m 148 #[.val (.int p1), .val (.int p2), .val (.int p3), .val (.int p4), .val (.int (0 : Int32)), .val (.int (p2 &&& (2147483647 : Int32))), .val (.int cp), .val (.int off), .val (.int fb), .val (.ref b1), .unset, .unset] [(.int fb), (.int (6 : Int32)), (.ref b1)])) rfl rfl (hb hby at_148) (fun T9 h9 X9 e9 W9 V9 => ?_)
    replace V9 : Arv Z h9 b1 k1 .byte (8 : Int32) [(.int (fb.toInt8.toInt32)), (.int (fb.toInt8.toInt32)), (.int (fb.toInt8.toInt32)), (.int (fb.toInt8.toInt32)), (.int (fb.toInt8.toInt32)), (.int (fb.toInt8.toInt32)), (.int (fb.toInt8.toInt32)), (.int (0 : Int32))] (.int (0 : Int32)) := V9
    have N9 := Fr.snoc X9 N8 (Nat.le_trans Z0 (Nat.le_of_eq g1.symm))
    refine own_go (fun t k => XS.aload X9.here hx rfl (hb hby at_149) rfl rfl  k) ?_
    refine own_go (fun t k => XS.bipush X9.here hx rfl (hb hby at_151) k) ?_
    refine own_go (fun t k => XS.iload X9.here hx rfl (hb hby at_153) rfl  k) ?_
    refine own_bastore X9 hx hZ e9 V9 (j := (7 : Int32)) ⟨by decide, by decide⟩ 7 rfl (Nat.le_of_ble_eq_true rfl) (g := (mkF m 155 #[.val (.int p1), .val (.int p2), .val (.int p3), .val (.int p4), .val (.int (0 : Int32)), .val (.int (p2 &&& (2147483647 : Int32))), .val (.int cp), .val (.int off), .val (.int fb), .val (.ref b1), .unset, .unset] [(.int fb), (.int (7 : Int32)), (.ref b1)])) rfl rfl (hb hby at_155) (fun T10 h10 X10 e10 W10 V10 => ?_)
    replace V10 : Arv Z h10 b1 k1 .byte (8 : Int32) [(.int (fb.toInt8.toInt32)), (.int (fb.toInt8.toInt32)), (.int (fb.toInt8.toInt32)), (.int (fb.toInt8.toInt32)), (.int (fb.toInt8.toInt32)), (.int (fb.toInt8.toInt32)), (.int (fb.toInt8.toInt32)), (.int (fb.toInt8.toInt32))] (.int (0 : Int32)) := V10
    have N10 := Fr.snoc X10 N9 (Nat.le_trans Z0 (Nat.le_of_eq g1.symm))
    show own_Run p e below Φ (T10.setTop (mkF m 156 #[.val (.int p1), .val (.int p2), .val (.int p3), .val (.int p4), .val (.int (0 : Int32)), .val (.int (p2 &&& (2147483647 : Int32))), .val (.int cp), .val (.int off), .val (.int fb), .val (.ref b1), .unset, .unset] []))
    rw [hfb] at V10
    have Q11 : Arv Z h10 b1 k1 .byte (8 : Int32) (own_z fb) (.int (0 : Int32)) := V10
    refine own_go (fun t k => XS.iload X10.here hx rfl (hb hby at_156) rfl  k) ?_
    refine own_go (fun t k => XS.aload X10.here hx rfl (hb hby at_158) rfl rfl  k) ?_
    refine own_go (fun t k => XS.iload X10.here hx rfl (hb hby at_160) rfl  k) ?_
    refine own_callS X10 hx hZ (y := (⟨"com/example/templum/templum/validation/Utf8", "encode", "(I[BI)I"⟩ : MethodName)) (W := 0) (argsL := [(.int cp), (.ref b1), (.int off)]) (rest := []) hown (hw _ (List.mem_of_getElem? (i := 2) rfl)) (hw _ (List.mem_of_getElem? (i := 3) rfl)) (hw _ (List.mem_of_getElem? (i := 4) rfl)) (hw _ (List.mem_of_getElem? (i := 5) rfl)) (by decide) (own_bk (rm_enc1 l Z a0 hw cp b1 off k1 fb (0 : Int32) h10 n0 Q11 (Nat.le_trans Z0 (Nat.le_of_eq g1.symm)) hoff hcp.1 hcp.2) hZ (hw _ (List.mem_of_getElem? (i := 5) rfl)) (hw _ (List.mem_of_getElem? (i := 4) rfl)) (by decide) (by decide)) e10 (g := (mkF m 162 #[.val (.int p1), .val (.int p2), .val (.int p3), .val (.int p4), .val (.int (0 : Int32)), .val (.int (p2 &&& (2147483647 : Int32))), .val (.int cp), .val (.int off), .val (.int fb), .val (.ref b1), .unset, .unset] [(.int off), (.ref b1), (.int cp)])) rfl (by rw [hml]; rfl) (lenOf pd_0 rfl) rfl (by show 2 * 0 + _ ≤ _; exact Nat.le_of_eq rfl) (hb hby at_162) (by decide) (by decide) (fun v12 T12 h12 L12 X12 e12 q12 => ?_)
    obtain ⟨rfl, M12, K12, P12_0⟩ := q12
    have N12 := Fr.app N10 M12
    refine own_go (fun t k => XS.istore X12.here hx rfl (hb hby at_165) rfl (l' := #[.val (.int p1), .val (.int p2), .val (.int p3), .val (.int p4), .val (.int (0 : Int32)), .val (.int (p2 &&& (2147483647 : Int32))), .val (.int cp), .val (.int off), .val (.int fb), .val (.ref b1), .val (.int (1 : Int32)), .unset]) rfl k) ?_
    show own_Run p e below Φ (T12.setTop (mkF m 167 #[.val (.int p1), .val (.int p2), .val (.int p3), .val (.int p4), .val (.int (0 : Int32)), .val (.int (p2 &&& (2147483647 : Int32))), .val (.int cp), .val (.int off), .val (.int fb), .val (.ref b1), .val (.int (1 : Int32)), .unset] []))
    refine own_go (fun t k => XS.iload X12.here hx rfl (hb hby at_167) rfl  k) ?_
    refine own_go (fun t k => XS.iload X12.here hx rfl (hb hby at_169) rfl  k) ?_
    refine own_go (fun t k => XS.iconst X12.here hx rfl (hb hby at_171) k) ?_
    refine own_go (fun t k => XS.iadd X12.here hx rfl (hb hby at_172) rfl k) ?_
    show own_Run p e below Φ (T12.setTop (mkF m 173 #[.val (.int p1), .val (.int p2), .val (.int p3), .val (.int p4), .val (.int (0 : Int32)), .val (.int (p2 &&& (2147483647 : Int32))), .val (.int cp), .val (.int off), .val (.int fb), .val (.ref b1), .val (.int (1 : Int32)), .unset] [(.int ((0 : Int32) + (1 : Int32))), (.int (1 : Int32))]))
    rw [show ((0 : Int32) + (1 : Int32)) = (1 : Int32) from by decide]
    show own_Run p e below Φ (T12.setTop (mkF m 173 #[.val (.int p1), .val (.int p2), .val (.int p3), .val (.int p4), .val (.int (0 : Int32)), .val (.int (p2 &&& (2147483647 : Int32))), .val (.int cp), .val (.int off), .val (.int fb), .val (.ref b1), .val (.int (1 : Int32)), .unset] [(.int (1 : Int32)), (.int (1 : Int32))]))
    refine own_go (fun t k => XS.icmpYes X12.here hx rfl (pc0 := 173) (pc' := 178) rfl (hb hby at_173) rfl (teq (rfl : (1 : Int32) = (1 : Int32))).1 (by decide) (by decide) k) ?_
    refine own_go (fun t k => XS.aload X12.here hx rfl (hb hby at_178) rfl rfl  k) ?_
    refine own_go (fun t k => XS.iconst X12.here hx rfl (hb hby at_180) k) ?_
    refine own_go (fun t k => XS.iload X12.here hx rfl (hb hby at_181) rfl  k) ?_
    refine own_go (fun t k => XS.iload X12.here hx rfl (hb hby at_183) rfl  k) ?_
    show own_Run p e below Φ (T12.setTop (mkF m 185 #[.val (.int p1), .val (.int p2), .val (.int p3), .val (.int p4), .val (.int (0 : Int32)), .val (.int (p2 &&& (2147483647 : Int32))), .val (.int cp), .val (.int off), .val (.int fb), .val (.ref b1), .val (.int (1 : Int32)), .unset] [(.int (1 : Int32)), (.int off), (.int (0 : Int32)), (.ref b1)]))
    refine own_go (fun t k => XS.iload X12.here hx rfl (hb hby at_185) rfl  k) ?_
    refine own_callS X12 hx hZ (y := (⟨"com/example/templum/templum/validation/Utf8EncodePinLaw", "kept", "([BIIIB)Z"⟩ : MethodName)) (W := 0) (argsL := [(.ref b1), (.int (0 : Int32)), (.int off), (.int (1 : Int32)), (.int fb)]) (rest := []) hown (hw _ (List.mem_of_getElem? (i := 6) rfl)) (hw _ (List.mem_of_getElem? (i := 7) rfl)) (hw _ (List.mem_of_getElem? (i := 8) rfl)) (hw _ (List.mem_of_getElem? (i := 9) rfl)) (by decide) (own_bk (rm_kept l Z a0 hw b1 (0 : Int32) off (1 : Int32) fb k1 (own_v1 fb off (cp.toInt8.toInt32)) (0 : Int32) h12 n0 P12_0 ⟨by decide, by decide⟩ (own_k10 hoff)) hZ (hw _ (List.mem_of_getElem? (i := 9) rfl)) (hw _ (List.mem_of_getElem? (i := 8) rfl)) (by decide) (by decide)) e12 (g := (mkF m 187 #[.val (.int p1), .val (.int p2), .val (.int p3), .val (.int p4), .val (.int (0 : Int32)), .val (.int (p2 &&& (2147483647 : Int32))), .val (.int cp), .val (.int off), .val (.int fb), .val (.ref b1), .val (.int (1 : Int32)), .unset] [(.int fb), (.int (1 : Int32)), (.int off), (.int (0 : Int32)), (.ref b1)])) rfl (by rw [hml]; rfl) (lenOf pd_1 rfl) rfl (by show 2 * 0 + _ ≤ _; exact Nat.le_of_eq rfl) (hb hby at_187) (by decide) (by decide) (fun v13 T13 h13 L13 X13 e13 q13 => ?_)
    obtain ⟨rfl, M13, s13⟩ := q13
    replace e13 : T13.heap = h12 := e13.trans s13
    have N13 := Fr.app N12 M13
    refine own_go (fun t k => XS.ifNo X13.here hx rfl (hb hby at_190) rfl ((if0 _ _).trans (feq (by decide : ¬ ((1 : Int32) = (0 : Int32)))).1) k) ?_
    refine own_go (fun t k => XS.aload X13.here hx rfl (hb hby at_193) rfl rfl  k) ?_
    refine own_go (fun t k => XS.iconst X13.here hx rfl (hb hby at_195) k) ?_
    show own_Run p e below Φ (T13.setTop (mkF m 196 #[.val (.int p1), .val (.int p2), .val (.int p3), .val (.int p4), .val (.int (0 : Int32)), .val (.int (p2 &&& (2147483647 : Int32))), .val (.int cp), .val (.int off), .val (.int fb), .val (.ref b1), .val (.int (1 : Int32)), .unset] [(.int (1 : Int32)), (.ref b1)]))
    refine own_go (fun t k => XS.iload X13.here hx rfl (hb hby at_196) rfl  k) ?_
    refine own_go (fun t k => XS.iload X13.here hx rfl (hb hby at_198) rfl  k) ?_
    refine own_go (fun t k => XS.iload X13.here hx rfl (hb hby at_200) rfl  k) ?_
    refine own_callS X13 hx hZ (y := (⟨"com/example/templum/templum/validation/Utf8EncodePinLaw", "kept", "([BIIIB)Z"⟩ : MethodName)) (W := 0) (argsL := [(.ref b1), (.int (1 : Int32)), (.int off), (.int (1 : Int32)), (.int fb)]) (rest := []) hown (hw _ (List.mem_of_getElem? (i := 6) rfl)) (hw _ (List.mem_of_getElem? (i := 7) rfl)) (hw _ (List.mem_of_getElem? (i := 8) rfl)) (hw _ (List.mem_of_getElem? (i := 9) rfl)) (by decide) (own_bk (rm_kept l Z a0 hw b1 (1 : Int32) off (1 : Int32) fb k1 (own_v1 fb off (cp.toInt8.toInt32)) (0 : Int32) h12 n0 P12_0 ⟨by decide, by decide⟩ (own_k11 hoff)) hZ (hw _ (List.mem_of_getElem? (i := 9) rfl)) (hw _ (List.mem_of_getElem? (i := 8) rfl)) (by decide) (by decide)) e13 (g := (mkF m 202 #[.val (.int p1), .val (.int p2), .val (.int p3), .val (.int p4), .val (.int (0 : Int32)), .val (.int (p2 &&& (2147483647 : Int32))), .val (.int cp), .val (.int off), .val (.int fb), .val (.ref b1), .val (.int (1 : Int32)), .unset] [(.int fb), (.int (1 : Int32)), (.int off), (.int (1 : Int32)), (.ref b1)])) rfl (by rw [hml]; rfl) (lenOf pd_1 rfl) rfl (by show 2 * 0 + _ ≤ _; exact Nat.le_of_eq rfl) (hb hby at_202) (by decide) (by decide) (fun v14 T14 h14 L14 X14 e14 q14 => ?_)
    obtain ⟨rfl, M14, s14⟩ := q14
    replace e14 : T14.heap = h12 := e14.trans s14
    have N14 := Fr.app N13 M14
    refine own_go (fun t k => XS.ifNo X14.here hx rfl (hb hby at_205) rfl ((if0 _ _).trans (feq (by decide : ¬ ((1 : Int32) = (0 : Int32)))).1) k) ?_
    show own_Run p e below Φ (T14.setTop (mkF m 208 #[.val (.int p1), .val (.int p2), .val (.int p3), .val (.int p4), .val (.int (0 : Int32)), .val (.int (p2 &&& (2147483647 : Int32))), .val (.int cp), .val (.int off), .val (.int fb), .val (.ref b1), .val (.int (1 : Int32)), .unset] []))
    refine own_go (fun t k => XS.aload X14.here hx rfl (hb hby at_208) rfl rfl  k) ?_
    refine own_go (fun t k => XS.iconst X14.here hx rfl (hb hby at_210) k) ?_
    refine own_go (fun t k => XS.iload X14.here hx rfl (hb hby at_211) rfl  k) ?_
    refine own_go (fun t k => XS.iload X14.here hx rfl (hb hby at_213) rfl  k) ?_
    refine own_go (fun t k => XS.iload X14.here hx rfl (hb hby at_215) rfl  k) ?_
    show own_Run p e below Φ (T14.setTop (mkF m 217 #[.val (.int p1), .val (.int p2), .val (.int p3), .val (.int p4), .val (.int (0 : Int32)), .val (.int (p2 &&& (2147483647 : Int32))), .val (.int cp), .val (.int off), .val (.int fb), .val (.ref b1), .val (.int (1 : Int32)), .unset] [(.int fb), (.int (1 : Int32)), (.int off), (.int (2 : Int32)), (.ref b1)]))
    refine own_callS X14 hx hZ (y := (⟨"com/example/templum/templum/validation/Utf8EncodePinLaw", "kept", "([BIIIB)Z"⟩ : MethodName)) (W := 0) (argsL := [(.ref b1), (.int (2 : Int32)), (.int off), (.int (1 : Int32)), (.int fb)]) (rest := []) hown (hw _ (List.mem_of_getElem? (i := 6) rfl)) (hw _ (List.mem_of_getElem? (i := 7) rfl)) (hw _ (List.mem_of_getElem? (i := 8) rfl)) (hw _ (List.mem_of_getElem? (i := 9) rfl)) (by decide) (own_bk (rm_kept l Z a0 hw b1 (2 : Int32) off (1 : Int32) fb k1 (own_v1 fb off (cp.toInt8.toInt32)) (0 : Int32) h12 n0 P12_0 ⟨by decide, by decide⟩ (own_k12 hoff)) hZ (hw _ (List.mem_of_getElem? (i := 9) rfl)) (hw _ (List.mem_of_getElem? (i := 8) rfl)) (by decide) (by decide)) e14 (g := (mkF m 217 #[.val (.int p1), .val (.int p2), .val (.int p3), .val (.int p4), .val (.int (0 : Int32)), .val (.int (p2 &&& (2147483647 : Int32))), .val (.int cp), .val (.int off), .val (.int fb), .val (.ref b1), .val (.int (1 : Int32)), .unset] [(.int fb), (.int (1 : Int32)), (.int off), (.int (2 : Int32)), (.ref b1)])) rfl (by rw [hml]; rfl) (lenOf pd_1 rfl) rfl (by show 2 * 0 + _ ≤ _; exact Nat.le_of_eq rfl) (hb hby at_217) (by decide) (by decide) (fun v15 T15 h15 L15 X15 e15 q15 => ?_)
    obtain ⟨rfl, M15, s15⟩ := q15
    replace e15 : T15.heap = h12 := e15.trans s15
    have N15 := Fr.app N14 M15
    refine own_go (fun t k => XS.ifNo X15.here hx rfl (hb hby at_220) rfl ((if0 _ _).trans (feq (by decide : ¬ ((1 : Int32) = (0 : Int32)))).1) k) ?_
    refine own_go (fun t k => XS.aload X15.here hx rfl (hb hby at_223) rfl rfl  k) ?_
    refine own_go (fun t k => XS.iconst X15.here hx rfl (hb hby at_225) k) ?_
    refine own_go (fun t k => XS.iload X15.here hx rfl (hb hby at_226) rfl  k) ?_
    show own_Run p e below Φ (T15.setTop (mkF m 228 #[.val (.int p1), .val (.int p2), .val (.int p3), .val (.int p4), .val (.int (0 : Int32)), .val (.int (p2 &&& (2147483647 : Int32))), .val (.int cp), .val (.int off), .val (.int fb), .val (.ref b1), .val (.int (1 : Int32)), .unset] [(.int off), (.int (3 : Int32)), (.ref b1)]))
    refine own_go (fun t k => XS.iload X15.here hx rfl (hb hby at_228) rfl  k) ?_
    refine own_go (fun t k => XS.iload X15.here hx rfl (hb hby at_230) rfl  k) ?_
    refine own_callS X15 hx hZ (y := (⟨"com/example/templum/templum/validation/Utf8EncodePinLaw", "kept", "([BIIIB)Z"⟩ : MethodName)) (W := 0) (argsL := [(.ref b1), (.int (3 : Int32)), (.int off), (.int (1 : Int32)), (.int fb)]) (rest := []) hown (hw _ (List.mem_of_getElem? (i := 6) rfl)) (hw _ (List.mem_of_getElem? (i := 7) rfl)) (hw _ (List.mem_of_getElem? (i := 8) rfl)) (hw _ (List.mem_of_getElem? (i := 9) rfl)) (by decide) (own_bk (rm_kept l Z a0 hw b1 (3 : Int32) off (1 : Int32) fb k1 (own_v1 fb off (cp.toInt8.toInt32)) (0 : Int32) h12 n0 P12_0 ⟨by decide, by decide⟩ (own_k13 hoff)) hZ (hw _ (List.mem_of_getElem? (i := 9) rfl)) (hw _ (List.mem_of_getElem? (i := 8) rfl)) (by decide) (by decide)) e15 (g := (mkF m 232 #[.val (.int p1), .val (.int p2), .val (.int p3), .val (.int p4), .val (.int (0 : Int32)), .val (.int (p2 &&& (2147483647 : Int32))), .val (.int cp), .val (.int off), .val (.int fb), .val (.ref b1), .val (.int (1 : Int32)), .unset] [(.int fb), (.int (1 : Int32)), (.int off), (.int (3 : Int32)), (.ref b1)])) rfl (by rw [hml]; rfl) (lenOf pd_1 rfl) rfl (by show 2 * 0 + _ ≤ _; exact Nat.le_of_eq rfl) (hb hby at_232) (by decide) (by decide) (fun v16 T16 h16 L16 X16 e16 q16 => ?_)
    obtain ⟨rfl, M16, s16⟩ := q16
    replace e16 : T16.heap = h12 := e16.trans s16
    have N16 := Fr.app N15 M16
    refine own_go (fun t k => XS.ifNo X16.here hx rfl (hb hby at_235) rfl ((if0 _ _).trans (feq (by decide : ¬ ((1 : Int32) = (0 : Int32)))).1) k) ?_
    refine own_go (fun t k => XS.aload X16.here hx rfl (hb hby at_238) rfl rfl  k) ?_
    show own_Run p e below Φ (T16.setTop (mkF m 240 #[.val (.int p1), .val (.int p2), .val (.int p3), .val (.int p4), .val (.int (0 : Int32)), .val (.int (p2 &&& (2147483647 : Int32))), .val (.int cp), .val (.int off), .val (.int fb), .val (.ref b1), .val (.int (1 : Int32)), .unset] [(.ref b1)]))
    refine own_go (fun t k => XS.iconst X16.here hx rfl (hb hby at_240) k) ?_
    refine own_go (fun t k => XS.iload X16.here hx rfl (hb hby at_241) rfl  k) ?_
    refine own_go (fun t k => XS.iload X16.here hx rfl (hb hby at_243) rfl  k) ?_
    refine own_go (fun t k => XS.iload X16.here hx rfl (hb hby at_245) rfl  k) ?_
    refine own_callS X16 hx hZ (y := (⟨"com/example/templum/templum/validation/Utf8EncodePinLaw", "kept", "([BIIIB)Z"⟩ : MethodName)) (W := 0) (argsL := [(.ref b1), (.int (4 : Int32)), (.int off), (.int (1 : Int32)), (.int fb)]) (rest := []) hown (hw _ (List.mem_of_getElem? (i := 6) rfl)) (hw _ (List.mem_of_getElem? (i := 7) rfl)) (hw _ (List.mem_of_getElem? (i := 8) rfl)) (hw _ (List.mem_of_getElem? (i := 9) rfl)) (by decide) (own_bk (rm_kept l Z a0 hw b1 (4 : Int32) off (1 : Int32) fb k1 (own_v1 fb off (cp.toInt8.toInt32)) (0 : Int32) h12 n0 P12_0 ⟨by decide, by decide⟩ (own_k14 hoff)) hZ (hw _ (List.mem_of_getElem? (i := 9) rfl)) (hw _ (List.mem_of_getElem? (i := 8) rfl)) (by decide) (by decide)) e16 (g := (mkF m 247 #[.val (.int p1), .val (.int p2), .val (.int p3), .val (.int p4), .val (.int (0 : Int32)), .val (.int (p2 &&& (2147483647 : Int32))), .val (.int cp), .val (.int off), .val (.int fb), .val (.ref b1), .val (.int (1 : Int32)), .unset] [(.int fb), (.int (1 : Int32)), (.int off), (.int (4 : Int32)), (.ref b1)])) rfl (by rw [hml]; rfl) (lenOf pd_1 rfl) rfl (by show 2 * 0 + _ ≤ _; exact Nat.le_of_eq rfl) (hb hby at_247) (by decide) (by decide) (fun v17 T17 h17 L17 X17 e17 q17 => ?_)
    obtain ⟨rfl, M17, s17⟩ := q17
    replace e17 : T17.heap = h12 := e17.trans s17
    have N17 := Fr.app N16 M17
    show own_Run p e below Φ (T17.setTop (mkF m 250 #[.val (.int p1), .val (.int p2), .val (.int p3), .val (.int p4), .val (.int (0 : Int32)), .val (.int (p2 &&& (2147483647 : Int32))), .val (.int cp), .val (.int off), .val (.int fb), .val (.ref b1), .val (.int (1 : Int32)), .unset] [(.int (1 : Int32))]))
    refine own_go (fun t k => XS.ifNo X17.here hx rfl (hb hby at_250) rfl ((if0 _ _).trans (feq (by decide : ¬ ((1 : Int32) = (0 : Int32)))).1) k) ?_
    refine own_go (fun t k => XS.aload X17.here hx rfl (hb hby at_253) rfl rfl  k) ?_
    refine own_go (fun t k => XS.iconst X17.here hx rfl (hb hby at_255) k) ?_
    refine own_go (fun t k => XS.iload X17.here hx rfl (hb hby at_256) rfl  k) ?_
    refine own_go (fun t k => XS.iload X17.here hx rfl (hb hby at_258) rfl  k) ?_
    show own_Run p e below Φ (T17.setTop (mkF m 260 #[.val (.int p1), .val (.int p2), .val (.int p3), .val (.int p4), .val (.int (0 : Int32)), .val (.int (p2 &&& (2147483647 : Int32))), .val (.int cp), .val (.int off), .val (.int fb), .val (.ref b1), .val (.int (1 : Int32)), .unset] [(.int (1 : Int32)), (.int off), (.int (5 : Int32)), (.ref b1)]))
    refine own_go (fun t k => XS.iload X17.here hx rfl (hb hby at_260) rfl  k) ?_
    refine own_callS X17 hx hZ (y := (⟨"com/example/templum/templum/validation/Utf8EncodePinLaw", "kept", "([BIIIB)Z"⟩ : MethodName)) (W := 0) (argsL := [(.ref b1), (.int (5 : Int32)), (.int off), (.int (1 : Int32)), (.int fb)]) (rest := []) hown (hw _ (List.mem_of_getElem? (i := 6) rfl)) (hw _ (List.mem_of_getElem? (i := 7) rfl)) (hw _ (List.mem_of_getElem? (i := 8) rfl)) (hw _ (List.mem_of_getElem? (i := 9) rfl)) (by decide) (own_bk (rm_kept l Z a0 hw b1 (5 : Int32) off (1 : Int32) fb k1 (own_v1 fb off (cp.toInt8.toInt32)) (0 : Int32) h12 n0 P12_0 ⟨by decide, by decide⟩ (own_k15 hoff)) hZ (hw _ (List.mem_of_getElem? (i := 9) rfl)) (hw _ (List.mem_of_getElem? (i := 8) rfl)) (by decide) (by decide)) e17 (g := (mkF m 262 #[.val (.int p1), .val (.int p2), .val (.int p3), .val (.int p4), .val (.int (0 : Int32)), .val (.int (p2 &&& (2147483647 : Int32))), .val (.int cp), .val (.int off), .val (.int fb), .val (.ref b1), .val (.int (1 : Int32)), .unset] [(.int fb), (.int (1 : Int32)), (.int off), (.int (5 : Int32)), (.ref b1)])) rfl (by rw [hml]; rfl) (lenOf pd_1 rfl) rfl (by show 2 * 0 + _ ≤ _; exact Nat.le_of_eq rfl) (hb hby at_262) (by decide) (by decide) (fun v18 T18 h18 L18 X18 e18 q18 => ?_)
    obtain ⟨rfl, M18, s18⟩ := q18
    replace e18 : T18.heap = h12 := e18.trans s18
    have N18 := Fr.app N17 M18
    refine own_go (fun t k => XS.ifNo X18.here hx rfl (hb hby at_265) rfl ((if0 _ _).trans (feq (by decide : ¬ ((1 : Int32) = (0 : Int32)))).1) k) ?_
    refine own_go (fun t k => XS.aload X18.here hx rfl (hb hby at_268) rfl rfl  k) ?_
    refine own_go (fun t k => XS.bipush X18.here hx rfl (hb hby at_270) k) ?_
    show own_Run p e below Φ (T18.setTop (mkF m 272 #[.val (.int p1), .val (.int p2), .val (.int p3), .val (.int p4), .val (.int (0 : Int32)), .val (.int (p2 &&& (2147483647 : Int32))), .val (.int cp), .val (.int off), .val (.int fb), .val (.ref b1), .val (.int (1 : Int32)), .unset] [(.int (6 : Int32)), (.ref b1)]))
    refine own_go (fun t k => XS.iload X18.here hx rfl (hb hby at_272) rfl  k) ?_
    refine own_go (fun t k => XS.iload X18.here hx rfl (hb hby at_274) rfl  k) ?_
    refine own_go (fun t k => XS.iload X18.here hx rfl (hb hby at_276) rfl  k) ?_
    refine own_callS X18 hx hZ (y := (⟨"com/example/templum/templum/validation/Utf8EncodePinLaw", "kept", "([BIIIB)Z"⟩ : MethodName)) (W := 0) (argsL := [(.ref b1), (.int (6 : Int32)), (.int off), (.int (1 : Int32)), (.int fb)]) (rest := []) hown (hw _ (List.mem_of_getElem? (i := 6) rfl)) (hw _ (List.mem_of_getElem? (i := 7) rfl)) (hw _ (List.mem_of_getElem? (i := 8) rfl)) (hw _ (List.mem_of_getElem? (i := 9) rfl)) (by decide) (own_bk (rm_kept l Z a0 hw b1 (6 : Int32) off (1 : Int32) fb k1 (own_v1 fb off (cp.toInt8.toInt32)) (0 : Int32) h12 n0 P12_0 ⟨by decide, by decide⟩ (own_k16 hoff)) hZ (hw _ (List.mem_of_getElem? (i := 9) rfl)) (hw _ (List.mem_of_getElem? (i := 8) rfl)) (by decide) (by decide)) e18 (g := (mkF m 278 #[.val (.int p1), .val (.int p2), .val (.int p3), .val (.int p4), .val (.int (0 : Int32)), .val (.int (p2 &&& (2147483647 : Int32))), .val (.int cp), .val (.int off), .val (.int fb), .val (.ref b1), .val (.int (1 : Int32)), .unset] [(.int fb), (.int (1 : Int32)), (.int off), (.int (6 : Int32)), (.ref b1)])) rfl (by rw [hml]; rfl) (lenOf pd_1 rfl) rfl (by show 2 * 0 + _ ≤ _; exact Nat.le_of_eq rfl) (hb hby at_278) (by decide) (by decide) (fun v19 T19 h19 L19 X19 e19 q19 => ?_)
    obtain ⟨rfl, M19, s19⟩ := q19
    replace e19 : T19.heap = h12 := e19.trans s19
    have N19 := Fr.app N18 M19
    refine own_go (fun t k => XS.ifNo X19.here hx rfl (hb hby at_281) rfl ((if0 _ _).trans (feq (by decide : ¬ ((1 : Int32) = (0 : Int32)))).1) k) ?_
    show own_Run p e below Φ (T19.setTop (mkF m 284 #[.val (.int p1), .val (.int p2), .val (.int p3), .val (.int p4), .val (.int (0 : Int32)), .val (.int (p2 &&& (2147483647 : Int32))), .val (.int cp), .val (.int off), .val (.int fb), .val (.ref b1), .val (.int (1 : Int32)), .unset] []))
    refine own_go (fun t k => XS.aload X19.here hx rfl (hb hby at_284) rfl rfl  k) ?_
    refine own_go (fun t k => XS.bipush X19.here hx rfl (hb hby at_286) k) ?_
    refine own_go (fun t k => XS.iload X19.here hx rfl (hb hby at_288) rfl  k) ?_
    refine own_go (fun t k => XS.iload X19.here hx rfl (hb hby at_290) rfl  k) ?_
    refine own_go (fun t k => XS.iload X19.here hx rfl (hb hby at_292) rfl  k) ?_
    show own_Run p e below Φ (T19.setTop (mkF m 294 #[.val (.int p1), .val (.int p2), .val (.int p3), .val (.int p4), .val (.int (0 : Int32)), .val (.int (p2 &&& (2147483647 : Int32))), .val (.int cp), .val (.int off), .val (.int fb), .val (.ref b1), .val (.int (1 : Int32)), .unset] [(.int fb), (.int (1 : Int32)), (.int off), (.int (7 : Int32)), (.ref b1)]))
    refine own_callS X19 hx hZ (y := (⟨"com/example/templum/templum/validation/Utf8EncodePinLaw", "kept", "([BIIIB)Z"⟩ : MethodName)) (W := 0) (argsL := [(.ref b1), (.int (7 : Int32)), (.int off), (.int (1 : Int32)), (.int fb)]) (rest := []) hown (hw _ (List.mem_of_getElem? (i := 6) rfl)) (hw _ (List.mem_of_getElem? (i := 7) rfl)) (hw _ (List.mem_of_getElem? (i := 8) rfl)) (hw _ (List.mem_of_getElem? (i := 9) rfl)) (by decide) (own_bk (rm_kept l Z a0 hw b1 (7 : Int32) off (1 : Int32) fb k1 (own_v1 fb off (cp.toInt8.toInt32)) (0 : Int32) h12 n0 P12_0 ⟨by decide, by decide⟩ (own_k17 hoff)) hZ (hw _ (List.mem_of_getElem? (i := 9) rfl)) (hw _ (List.mem_of_getElem? (i := 8) rfl)) (by decide) (by decide)) e19 (g := (mkF m 294 #[.val (.int p1), .val (.int p2), .val (.int p3), .val (.int p4), .val (.int (0 : Int32)), .val (.int (p2 &&& (2147483647 : Int32))), .val (.int cp), .val (.int off), .val (.int fb), .val (.ref b1), .val (.int (1 : Int32)), .unset] [(.int fb), (.int (1 : Int32)), (.int off), (.int (7 : Int32)), (.ref b1)])) rfl (by rw [hml]; rfl) (lenOf pd_1 rfl) rfl (by show 2 * 0 + _ ≤ _; exact Nat.le_of_eq rfl) (hb hby at_294) (by decide) (by decide) (fun v20 T20 h20 L20 X20 e20 q20 => ?_)
    obtain ⟨rfl, M20, s20⟩ := q20
    replace e20 : T20.heap = h12 := e20.trans s20
    have N20 := Fr.app N19 M20
    refine own_go (fun t k => XS.ifNo X20.here hx rfl (hb hby at_297) rfl ((if0 _ _).trans (feq (by decide : ¬ ((1 : Int32) = (0 : Int32)))).1) k) ?_
    refine own_go (fun t k => XS.iconst X20.here hx rfl (hb hby at_300) k) ?_
    refine own_go (fun t k => XS.goto X20.here hx rfl (pc0 := 301) (pc' := 305) rfl (hb hby at_301) (by decide) (by decide) k) ?_
    refine own_go (fun t k => XS.istore X20.here hx rfl (hb hby at_305) rfl (l' := #[.val (.int p1), .val (.int p2), .val (.int p3), .val (.int p4), .val (.int (0 : Int32)), .val (.int (p2 &&& (2147483647 : Int32))), .val (.int cp), .val (.int off), .val (.int fb), .val (.ref b1), .val (.int (1 : Int32)), .val (.int (1 : Int32))]) rfl k) ?_
    show own_Run p e below Φ (T20.setTop (mkF m 307 #[.val (.int p1), .val (.int p2), .val (.int p3), .val (.int p4), .val (.int (0 : Int32)), .val (.int (p2 &&& (2147483647 : Int32))), .val (.int cp), .val (.int off), .val (.int fb), .val (.ref b1), .val (.int (1 : Int32)), .val (.int (1 : Int32))] []))
    refine own_go (fun t k => XS.iload X20.here hx rfl (hb hby at_307) rfl  k) ?_
    refine own_go (fun t k => XS.ifYes X20.here hx rfl (pc0 := 309) (pc' := 314) rfl (hb hby at_309) rfl ((if0 _ _).trans (feq (by decide : ¬ ((1 : Int32) = (0 : Int32)))).2) (by decide) (by decide) k) ?_
    refine own_go (fun t k => XS.aload X20.here hx rfl (hb hby at_314) rfl rfl  k) ?_
    refine own_go (fun t k => XS.iload X20.here hx rfl (hb hby at_316) rfl  k) ?_
    refine own_baload X20 hx hZ e20 P12_0 (j := off) (v := (.int (cp.toInt8.toInt32))) (own_o0 hoff) (own_g10 hoff) (g := (mkF m 318 #[.val (.int p1), .val (.int p2), .val (.int p3), .val (.int p4), .val (.int (0 : Int32)), .val (.int (p2 &&& (2147483647 : Int32))), .val (.int cp), .val (.int off), .val (.int fb), .val (.ref b1), .val (.int (1 : Int32)), .val (.int (1 : Int32))] [(.int off), (.ref b1)])) rfl rfl (hb hby at_318) ?_
    show own_Run p e below Φ (T20.setTop (mkF m 319 #[.val (.int p1), .val (.int p2), .val (.int p3), .val (.int p4), .val (.int (0 : Int32)), .val (.int (p2 &&& (2147483647 : Int32))), .val (.int cp), .val (.int off), .val (.int fb), .val (.ref b1), .val (.int (1 : Int32)), .val (.int (1 : Int32))] [(.int (cp.toInt8.toInt32))]))
    refine own_callS X20 hx hZ (y := (⟨"com/example/templum/templum/validation/Utf8", "length", "(B)I"⟩ : MethodName)) (W := 0) (argsL := [(.int (cp.toInt8.toInt32))]) (rest := []) hown (hw _ (List.mem_of_getElem? (i := 10) rfl)) (hw _ (List.mem_of_getElem? (i := 11) rfl)) (hw _ (List.mem_of_getElem? (i := 4) rfl)) (hw _ (List.mem_of_getElem? (i := 12) rfl)) (by decide) (own_bk (rm_len l Z a0 hw (cp.toInt8.toInt32) h12 n0 ) hZ (hw _ (List.mem_of_getElem? (i := 12) rfl)) (hw _ (List.mem_of_getElem? (i := 4) rfl)) (by decide) (by decide)) e20 (g := (mkF m 319 #[.val (.int p1), .val (.int p2), .val (.int p3), .val (.int p4), .val (.int (0 : Int32)), .val (.int (p2 &&& (2147483647 : Int32))), .val (.int cp), .val (.int off), .val (.int fb), .val (.ref b1), .val (.int (1 : Int32)), .val (.int (1 : Int32))] [(.int (cp.toInt8.toInt32))])) rfl (by rw [hml]; rfl) (lenOf pd_2 rfl) rfl (by show 2 * 0 + _ ≤ _; exact Nat.le_of_eq rfl) (hb hby at_319) (by decide) (by decide) (fun v21 T21 h21 L21 X21 e21 q21 => ?_)
    obtain ⟨rfl, M21, s21⟩ := q21
    replace e21 : T21.heap = h12 := e21.trans s21
    have N21 := Fr.app N20 M21
    refine own_go (fun t k => XS.iload X21.here hx rfl (hb hby at_322) rfl  k) ?_
    have hc324 : (own_len8 (cp.toInt8.toInt32)) = (1 : Int32) := (own_m1 hcp.1 hcp.2)
    refine own_go (fun t k => XS.icmpYes X21.here hx rfl (pc0 := 324) (pc' := 329) rfl (hb hby at_324) rfl (teq hc324).1 (by decide) (by decide) k) ?_
    refine own_go (fun t k => XS.iload X21.here hx rfl (hb hby at_329) rfl  k) ?_
    refine own_go (fun t k => XS.iconst X21.here hx rfl (hb hby at_331) k) ?_
    show own_Run p e below Φ (T21.setTop (mkF m 332 #[.val (.int p1), .val (.int p2), .val (.int p3), .val (.int p4), .val (.int (0 : Int32)), .val (.int (p2 &&& (2147483647 : Int32))), .val (.int cp), .val (.int off), .val (.int fb), .val (.ref b1), .val (.int (1 : Int32)), .val (.int (1 : Int32))] [(.int (1 : Int32)), (.int (1 : Int32))]))
    refine own_go (fun t k => XS.icmpNo X21.here hx rfl (hb hby at_332) rfl (teq (rfl : (1 : Int32) = (1 : Int32))).2 k) ?_
    refine own_go (fun t k => XS.aload X21.here hx rfl (hb hby at_335) rfl rfl  k) ?_
    refine own_go (fun t k => XS.iload X21.here hx rfl (hb hby at_337) rfl  k) ?_
    refine own_baload X21 hx hZ e21 P12_0 (j := off) (v := (.int (cp.toInt8.toInt32))) (own_o0 hoff) (own_g10 hoff) (g := (mkF m 339 #[.val (.int p1), .val (.int p2), .val (.int p3), .val (.int p4), .val (.int (0 : Int32)), .val (.int (p2 &&& (2147483647 : Int32))), .val (.int cp), .val (.int off), .val (.int fb), .val (.ref b1), .val (.int (1 : Int32)), .val (.int (1 : Int32))] [(.int off), (.ref b1)])) rfl rfl (hb hby at_339) ?_
    refine own_go (fun t k => XS.iload X21.here hx rfl (hb hby at_340) rfl  k) ?_
    show own_Run p e below Φ (T21.setTop (mkF m 342 #[.val (.int p1), .val (.int p2), .val (.int p3), .val (.int p4), .val (.int (0 : Int32)), .val (.int (p2 &&& (2147483647 : Int32))), .val (.int cp), .val (.int off), .val (.int fb), .val (.ref b1), .val (.int (1 : Int32)), .val (.int (1 : Int32))] [(.int cp), (.int (cp.toInt8.toInt32))]))
    refine own_go (fun t k => XS.i2b X21.here hx rfl (hb hby at_342) rfl k) ?_
    refine own_go (fun t k => XS.icmpNo X21.here hx rfl (hb hby at_343) rfl (teq (rfl : (cp.toInt8.toInt32) = (cp.toInt8.toInt32))).2 k) ?_
    refine own_go (fun t k => XS.iconst X21.here hx rfl (hb hby at_346) k) ?_
    refine own_go (fun t k => XS.goto X21.here hx rfl (pc0 := 347) (pc' := 351) rfl (hb hby at_347) (by decide) (by decide) k) ?_
    subst hΦ
    exact own_retN X21 hx (t := .boolean) Bd.returns (by simp) hlk (hb hby at_351) e21 ⟨rfl, N21⟩ (by decide) (by decide)
  · rw [e1]
    show own_Run p e below Φ (s₁.setTop (mkF m 11 #[.val (.int p1), .val (.int p2), .val (.int p3), .val (.int p4), .val (.int (1 : Int32)), .val (.int (p2 &&& (2147483647 : Int32))), .unset, .unset, .unset, .unset, .unset, .unset] []))
    refine own_go (fun t k => XS.iload X0.here hx rfl (hb hby at_11) rfl  k) ?_
    show own_Run p e below Φ (s₁.setTop (mkF m 13 #[.val (.int p1), .val (.int p2), .val (.int p3), .val (.int p4), .val (.int (1 : Int32)), .val (.int (p2 &&& (2147483647 : Int32))), .unset, .unset, .unset, .unset, .unset, .unset] [(.int (1 : Int32))]))
    refine own_go (fun t k => XS.ifYes X0.here hx rfl (pc0 := 13) (pc' := 25) rfl (hb hby at_13) rfl ((if0 _ _).trans (feq (by decide : ¬ ((1 : Int32) = (0 : Int32)))).2) (by decide) (by decide) k) ?_
    refine own_go (fun t k => XS.iload X0.here hx rfl (hb hby at_25) rfl  k) ?_
    refine own_go (fun t k => XS.iconst X0.here hx rfl (hb hby at_27) k) ?_
    refine own_go (fun t k => XS.icmpNo X0.here hx rfl (hb hby at_28) rfl (teq (rfl : (1 : Int32) = (1 : Int32))).2 k) ?_
    refine own_go (fun t k => XS.sipush X0.here hx rfl (hb hby at_31) k) ?_
    show own_Run p e below Φ (s₁.setTop (mkF m 34 #[.val (.int p1), .val (.int p2), .val (.int p3), .val (.int p4), .val (.int (1 : Int32)), .val (.int (p2 &&& (2147483647 : Int32))), .unset, .unset, .unset, .unset, .unset, .unset] [(.int (128 : Int32))]))
    refine own_go (fun t k => XS.iload X0.here hx rfl (hb hby at_34) rfl  k) ?_
    refine own_go (fun t k => XS.sipush X0.here hx rfl (hb hby at_36) k) ?_
    refine own_go (fun t k => Jvm.RoadKit.iremM X0 hx rfl (hb hby at_39) rfl (by decide) k) ?_
    refine own_go (fun t k => XS.iadd X0.here hx rfl (hb hby at_40) rfl k) ?_
    refine own_go (fun t k => XS.istore X0.here hx rfl (hb hby at_41) rfl (l' := #[.val (.int p1), .val (.int p2), .val (.int p3), .val (.int p4), .val (.int (1 : Int32)), .val (.int (p2 &&& (2147483647 : Int32))), .val (.int ((128 : Int32) + ((p2 &&& (2147483647 : Int32)) % (1920 : Int32)))), .unset, .unset, .unset, .unset, .unset]) rfl k) ?_
    show own_Run p e below Φ (s₁.setTop (mkF m 43 #[.val (.int p1), .val (.int p2), .val (.int p3), .val (.int p4), .val (.int (1 : Int32)), .val (.int (p2 &&& (2147483647 : Int32))), .val (.int ((128 : Int32) + ((p2 &&& (2147483647 : Int32)) % (1920 : Int32)))), .unset, .unset, .unset, .unset, .unset] []))
    refine own_go (fun t k => XS.goto X0.here hx rfl (pc0 := 43) (pc' := 91) rfl (hb hby at_43) (by decide) (by decide) k) ?_
    show own_Run p e below Φ (s₁.setTop (mkF m 91 #[.val (.int p1), .val (.int p2), .val (.int p3), .val (.int p4), .val (.int (1 : Int32)), .val (.int (p2 &&& (2147483647 : Int32))), .val (.int ((128 : Int32) + ((p2 &&& (2147483647 : Int32)) % (1920 : Int32)))), .unset, .unset, .unset, .unset, .unset] []))
    have hcp := own_q1 p2
    generalize ecp : ((128 : Int32) + ((p2 &&& (2147483647 : Int32)) % (1920 : Int32))) = cp at hcp ⊢
    show own_Run p e below Φ (s₁.setTop (mkF m 91 #[.val (.int p1), .val (.int p2), .val (.int p3), .val (.int p4), .val (.int (1 : Int32)), .val (.int (p2 &&& (2147483647 : Int32))), .val (.int cp), .unset, .unset, .unset, .unset, .unset] []))
    refine own_go (fun t k => XS.iloadN X0.here hx rfl (hb hby at_91) rfl  k) ?_
    refine own_go (fun t k => XS.iconst X0.here hx rfl (hb hby at_92) k) ?_
    refine own_go (fun t k => XS.iand X0.here hx rfl (hb hby at_93) rfl k) ?_
    refine own_go (fun t k => XS.istore X0.here hx rfl (hb hby at_94) rfl (l' := #[.val (.int p1), .val (.int p2), .val (.int p3), .val (.int p4), .val (.int (1 : Int32)), .val (.int (p2 &&& (2147483647 : Int32))), .val (.int cp), .val (.int (p3 &&& (3 : Int32))), .unset, .unset, .unset, .unset]) rfl k) ?_
    refine own_go (fun t k => XS.iloadN X0.here hx rfl (hb hby at_96) rfl  k) ?_
    show own_Run p e below Φ (s₁.setTop (mkF m 97 #[.val (.int p1), .val (.int p2), .val (.int p3), .val (.int p4), .val (.int (1 : Int32)), .val (.int (p2 &&& (2147483647 : Int32))), .val (.int cp), .val (.int (p3 &&& (3 : Int32))), .unset, .unset, .unset, .unset] [(.int p4)]))
    refine own_go (fun t k => XS.i2b X0.here hx rfl (hb hby at_97) rfl k) ?_
    refine own_go (fun t k => XS.istore X0.here hx rfl (hb hby at_98) rfl (l' := #[.val (.int p1), .val (.int p2), .val (.int p3), .val (.int p4), .val (.int (1 : Int32)), .val (.int (p2 &&& (2147483647 : Int32))), .val (.int cp), .val (.int (p3 &&& (3 : Int32))), .val (.int (p4.toInt8.toInt32)), .unset, .unset, .unset]) rfl k) ?_
    show own_Run p e below Φ (s₁.setTop (mkF m 100 #[.val (.int p1), .val (.int p2), .val (.int p3), .val (.int p4), .val (.int (1 : Int32)), .val (.int (p2 &&& (2147483647 : Int32))), .val (.int cp), .val (.int (p3 &&& (3 : Int32))), .val (.int (p4.toInt8.toInt32)), .unset, .unset, .unset] []))
    have hoff := own_and3 p3
    generalize eoff : (p3 &&& (3 : Int32)) = off at hoff ⊢
    have hfb := own_b8 p4
    generalize efb : p4.toInt8.toInt32 = fb at hfb ⊢
    show own_Run p e below Φ (s₁.setTop (mkF m 100 #[.val (.int p1), .val (.int p2), .val (.int p3), .val (.int p4), .val (.int (1 : Int32)), .val (.int (p2 &&& (2147483647 : Int32))), .val (.int cp), .val (.int off), .val (.int fb), .unset, .unset, .unset] []))
    refine own_go (fun t k => XS.bipush X0.here hx rfl (hb hby at_100) k) ?_
    refine own_newP X0 hx hZ (hw _ (List.mem_of_getElem? (i := 1) rfl)) e0 (g := (mkF m 102 #[.val (.int p1), .val (.int p2), .val (.int p3), .val (.int p4), .val (.int (1 : Int32)), .val (.int (p2 &&& (2147483647 : Int32))), .val (.int cp), .val (.int off), .val (.int fb), .unset, .unset, .unset] [(.int (8 : Int32))])) rfl (hb hby at_102) rfl (by decide) 8 (by decide) (by decide) (by decide) (by decide) 8 (fun T22 h22 k22 b22 X22 e22 E22 g22 V22 => ?_)
    replace V22 : Arv Z h22 b22 k22 .byte (8 : Int32) [(.int (0 : Int32)), (.int (0 : Int32)), (.int (0 : Int32)), (.int (0 : Int32)), (.int (0 : Int32)), (.int (0 : Int32)), (.int (0 : Int32)), (.int (0 : Int32))] (.int (0 : Int32)) := V22
    refine own_go (fun t k => XS.astore X22.here hx rfl (hb hby at_104) rfl rfl (l' := #[.val (.int p1), .val (.int p2), .val (.int p3), .val (.int p4), .val (.int (1 : Int32)), .val (.int (p2 &&& (2147483647 : Int32))), .val (.int cp), .val (.int off), .val (.int fb), .val (.ref b22), .unset, .unset]) rfl k) ?_
    refine own_go (fun t k => XS.aload X22.here hx rfl (hb hby at_106) rfl rfl  k) ?_
    refine own_go (fun t k => XS.iconst X22.here hx rfl (hb hby at_108) k) ?_
    show own_Run p e below Φ (T22.setTop (mkF m 109 #[.val (.int p1), .val (.int p2), .val (.int p3), .val (.int p4), .val (.int (1 : Int32)), .val (.int (p2 &&& (2147483647 : Int32))), .val (.int cp), .val (.int off), .val (.int fb), .val (.ref b22), .unset, .unset] [(.int (0 : Int32)), (.ref b22)]))
    refine own_go (fun t k => XS.iload X22.here hx rfl (hb hby at_109) rfl  k) ?_
    refine own_bastore X22 hx hZ e22 V22 (j := (0 : Int32)) ⟨by decide, by decide⟩ 0 rfl (Nat.le_of_ble_eq_true rfl) (g := (mkF m 111 #[.val (.int p1), .val (.int p2), .val (.int p3), .val (.int p4), .val (.int (1 : Int32)), .val (.int (p2 &&& (2147483647 : Int32))), .val (.int cp), .val (.int off), .val (.int fb), .val (.ref b22), .unset, .unset] [(.int fb), (.int (0 : Int32)), (.ref b22)])) rfl rfl (hb hby at_111) (fun T24 h24 X24 e24 W24 V24 => ?_)
    replace V24 : Arv Z h24 b22 k22 .byte (8 : Int32) [(.int (fb.toInt8.toInt32)), (.int (0 : Int32)), (.int (0 : Int32)), (.int (0 : Int32)), (.int (0 : Int32)), (.int (0 : Int32)), (.int (0 : Int32)), (.int (0 : Int32))] (.int (0 : Int32)) := V24
    have N24 := Fr.snoc X24 N0 (Nat.le_trans Z0 (Nat.le_of_eq g22.symm))
    refine own_go (fun t k => XS.aload X24.here hx rfl (hb hby at_112) rfl rfl  k) ?_
    refine own_go (fun t k => XS.iconst X24.here hx rfl (hb hby at_114) k) ?_
    refine own_go (fun t k => XS.iload X24.here hx rfl (hb hby at_115) rfl  k) ?_
    show own_Run p e below Φ (T24.setTop (mkF m 117 #[.val (.int p1), .val (.int p2), .val (.int p3), .val (.int p4), .val (.int (1 : Int32)), .val (.int (p2 &&& (2147483647 : Int32))), .val (.int cp), .val (.int off), .val (.int fb), .val (.ref b22), .unset, .unset] [(.int fb), (.int (1 : Int32)), (.ref b22)]))
    refine own_bastore X24 hx hZ e24 V24 (j := (1 : Int32)) ⟨by decide, by decide⟩ 1 rfl (Nat.le_of_ble_eq_true rfl) (g := (mkF m 117 #[.val (.int p1), .val (.int p2), .val (.int p3), .val (.int p4), .val (.int (1 : Int32)), .val (.int (p2 &&& (2147483647 : Int32))), .val (.int cp), .val (.int off), .val (.int fb), .val (.ref b22), .unset, .unset] [(.int fb), (.int (1 : Int32)), (.ref b22)])) rfl rfl (hb hby at_117) (fun T25 h25 X25 e25 W25 V25 => ?_)
    replace V25 : Arv Z h25 b22 k22 .byte (8 : Int32) [(.int (fb.toInt8.toInt32)), (.int (fb.toInt8.toInt32)), (.int (0 : Int32)), (.int (0 : Int32)), (.int (0 : Int32)), (.int (0 : Int32)), (.int (0 : Int32)), (.int (0 : Int32))] (.int (0 : Int32)) := V25
    have N25 := Fr.snoc X25 N24 (Nat.le_trans Z0 (Nat.le_of_eq g22.symm))
    refine own_go (fun t k => XS.aload X25.here hx rfl (hb hby at_118) rfl rfl  k) ?_
    refine own_go (fun t k => XS.iconst X25.here hx rfl (hb hby at_120) k) ?_
    refine own_go (fun t k => XS.iload X25.here hx rfl (hb hby at_121) rfl  k) ?_
    refine own_bastore X25 hx hZ e25 V25 (j := (2 : Int32)) ⟨by decide, by decide⟩ 2 rfl (Nat.le_of_ble_eq_true rfl) (g := (mkF m 123 #[.val (.int p1), .val (.int p2), .val (.int p3), .val (.int p4), .val (.int (1 : Int32)), .val (.int (p2 &&& (2147483647 : Int32))), .val (.int cp), .val (.int off), .val (.int fb), .val (.ref b22), .unset, .unset] [(.int fb), (.int (2 : Int32)), (.ref b22)])) rfl rfl (hb hby at_123) (fun T26 h26 X26 e26 W26 V26 => ?_)
    replace V26 : Arv Z h26 b22 k22 .byte (8 : Int32) [(.int (fb.toInt8.toInt32)), (.int (fb.toInt8.toInt32)), (.int (fb.toInt8.toInt32)), (.int (0 : Int32)), (.int (0 : Int32)), (.int (0 : Int32)), (.int (0 : Int32)), (.int (0 : Int32))] (.int (0 : Int32)) := V26
    have N26 := Fr.snoc X26 N25 (Nat.le_trans Z0 (Nat.le_of_eq g22.symm))
    show own_Run p e below Φ (T26.setTop (mkF m 124 #[.val (.int p1), .val (.int p2), .val (.int p3), .val (.int p4), .val (.int (1 : Int32)), .val (.int (p2 &&& (2147483647 : Int32))), .val (.int cp), .val (.int off), .val (.int fb), .val (.ref b22), .unset, .unset] []))
    refine own_go (fun t k => XS.aload X26.here hx rfl (hb hby at_124) rfl rfl  k) ?_
    refine own_go (fun t k => XS.iconst X26.here hx rfl (hb hby at_126) k) ?_
    refine own_go (fun t k => XS.iload X26.here hx rfl (hb hby at_127) rfl  k) ?_
    refine own_bastore X26 hx hZ e26 V26 (j := (3 : Int32)) ⟨by decide, by decide⟩ 3 rfl (Nat.le_of_ble_eq_true rfl) (g := (mkF m 129 #[.val (.int p1), .val (.int p2), .val (.int p3), .val (.int p4), .val (.int (1 : Int32)), .val (.int (p2 &&& (2147483647 : Int32))), .val (.int cp), .val (.int off), .val (.int fb), .val (.ref b22), .unset, .unset] [(.int fb), (.int (3 : Int32)), (.ref b22)])) rfl rfl (hb hby at_129) (fun T27 h27 X27 e27 W27 V27 => ?_)
    replace V27 : Arv Z h27 b22 k22 .byte (8 : Int32) [(.int (fb.toInt8.toInt32)), (.int (fb.toInt8.toInt32)), (.int (fb.toInt8.toInt32)), (.int (fb.toInt8.toInt32)), (.int (0 : Int32)), (.int (0 : Int32)), (.int (0 : Int32)), (.int (0 : Int32))] (.int (0 : Int32)) := V27
    have N27 := Fr.snoc X27 N26 (Nat.le_trans Z0 (Nat.le_of_eq g22.symm))
    refine own_go (fun t k => XS.aload X27.here hx rfl (hb hby at_130) rfl rfl  k) ?_
    show own_Run p e below Φ (T27.setTop (mkF m 132 #[.val (.int p1), .val (.int p2), .val (.int p3), .val (.int p4), .val (.int (1 : Int32)), .val (.int (p2 &&& (2147483647 : Int32))), .val (.int cp), .val (.int off), .val (.int fb), .val (.ref b22), .unset, .unset] [(.ref b22)]))
    refine own_go (fun t k => XS.iconst X27.here hx rfl (hb hby at_132) k) ?_
    refine own_go (fun t k => XS.iload X27.here hx rfl (hb hby at_133) rfl  k) ?_
    refine own_bastore X27 hx hZ e27 V27 (j := (4 : Int32)) ⟨by decide, by decide⟩ 4 rfl (Nat.le_of_ble_eq_true rfl) (g := (mkF m 135 #[.val (.int p1), .val (.int p2), .val (.int p3), .val (.int p4), .val (.int (1 : Int32)), .val (.int (p2 &&& (2147483647 : Int32))), .val (.int cp), .val (.int off), .val (.int fb), .val (.ref b22), .unset, .unset] [(.int fb), (.int (4 : Int32)), (.ref b22)])) rfl rfl (hb hby at_135) (fun T28 h28 X28 e28 W28 V28 => ?_)
    replace V28 : Arv Z h28 b22 k22 .byte (8 : Int32) [(.int (fb.toInt8.toInt32)), (.int (fb.toInt8.toInt32)), (.int (fb.toInt8.toInt32)), (.int (fb.toInt8.toInt32)), (.int (fb.toInt8.toInt32)), (.int (0 : Int32)), (.int (0 : Int32)), (.int (0 : Int32))] (.int (0 : Int32)) := V28
    have N28 := Fr.snoc X28 N27 (Nat.le_trans Z0 (Nat.le_of_eq g22.symm))
    refine own_go (fun t k => XS.aload X28.here hx rfl (hb hby at_136) rfl rfl  k) ?_
    refine own_go (fun t k => XS.iconst X28.here hx rfl (hb hby at_138) k) ?_
    show own_Run p e below Φ (T28.setTop (mkF m 139 #[.val (.int p1), .val (.int p2), .val (.int p3), .val (.int p4), .val (.int (1 : Int32)), .val (.int (p2 &&& (2147483647 : Int32))), .val (.int cp), .val (.int off), .val (.int fb), .val (.ref b22), .unset, .unset] [(.int (5 : Int32)), (.ref b22)]))
    refine own_go (fun t k => XS.iload X28.here hx rfl (hb hby at_139) rfl  k) ?_
    refine own_bastore X28 hx hZ e28 V28 (j := (5 : Int32)) ⟨by decide, by decide⟩ 5 rfl (Nat.le_of_ble_eq_true rfl) (g := (mkF m 141 #[.val (.int p1), .val (.int p2), .val (.int p3), .val (.int p4), .val (.int (1 : Int32)), .val (.int (p2 &&& (2147483647 : Int32))), .val (.int cp), .val (.int off), .val (.int fb), .val (.ref b22), .unset, .unset] [(.int fb), (.int (5 : Int32)), (.ref b22)])) rfl rfl (hb hby at_141) (fun T29 h29 X29 e29 W29 V29 => ?_)
    replace V29 : Arv Z h29 b22 k22 .byte (8 : Int32) [(.int (fb.toInt8.toInt32)), (.int (fb.toInt8.toInt32)), (.int (fb.toInt8.toInt32)), (.int (fb.toInt8.toInt32)), (.int (fb.toInt8.toInt32)), (.int (fb.toInt8.toInt32)), (.int (0 : Int32)), (.int (0 : Int32))] (.int (0 : Int32)) := V29
    have N29 := Fr.snoc X29 N28 (Nat.le_trans Z0 (Nat.le_of_eq g22.symm))
    refine own_go (fun t k => XS.aload X29.here hx rfl (hb hby at_142) rfl rfl  k) ?_
    refine own_go (fun t k => XS.bipush X29.here hx rfl (hb hby at_144) k) ?_
    refine own_go (fun t k => XS.iload X29.here hx rfl (hb hby at_146) rfl  k) ?_
    show own_Run p e below Φ (T29.setTop (mkF m 148 #[.val (.int p1), .val (.int p2), .val (.int p3), .val (.int p4), .val (.int (1 : Int32)), .val (.int (p2 &&& (2147483647 : Int32))), .val (.int cp), .val (.int off), .val (.int fb), .val (.ref b22), .unset, .unset] [(.int fb), (.int (6 : Int32)), (.ref b22)]))
    refine own_bastore X29 hx hZ e29 V29 (j := (6 : Int32)) ⟨by decide, by decide⟩ 6 rfl (Nat.le_of_ble_eq_true rfl) (g := (mkF m 148 #[.val (.int p1), .val (.int p2), .val (.int p3), .val (.int p4), .val (.int (1 : Int32)), .val (.int (p2 &&& (2147483647 : Int32))), .val (.int cp), .val (.int off), .val (.int fb), .val (.ref b22), .unset, .unset] [(.int fb), (.int (6 : Int32)), (.ref b22)])) rfl rfl (hb hby at_148) (fun T30 h30 X30 e30 W30 V30 => ?_)
    replace V30 : Arv Z h30 b22 k22 .byte (8 : Int32) [(.int (fb.toInt8.toInt32)), (.int (fb.toInt8.toInt32)), (.int (fb.toInt8.toInt32)), (.int (fb.toInt8.toInt32)), (.int (fb.toInt8.toInt32)), (.int (fb.toInt8.toInt32)), (.int (fb.toInt8.toInt32)), (.int (0 : Int32))] (.int (0 : Int32)) := V30
    have N30 := Fr.snoc X30 N29 (Nat.le_trans Z0 (Nat.le_of_eq g22.symm))
    refine own_go (fun t k => XS.aload X30.here hx rfl (hb hby at_149) rfl rfl  k) ?_
    refine own_go (fun t k => XS.bipush X30.here hx rfl (hb hby at_151) k) ?_
    refine own_go (fun t k => XS.iload X30.here hx rfl (hb hby at_153) rfl  k) ?_
    refine own_bastore X30 hx hZ e30 V30 (j := (7 : Int32)) ⟨by decide, by decide⟩ 7 rfl (Nat.le_of_ble_eq_true rfl) (g := (mkF m 155 #[.val (.int p1), .val (.int p2), .val (.int p3), .val (.int p4), .val (.int (1 : Int32)), .val (.int (p2 &&& (2147483647 : Int32))), .val (.int cp), .val (.int off), .val (.int fb), .val (.ref b22), .unset, .unset] [(.int fb), (.int (7 : Int32)), (.ref b22)])) rfl rfl (hb hby at_155) (fun T31 h31 X31 e31 W31 V31 => ?_)
    replace V31 : Arv Z h31 b22 k22 .byte (8 : Int32) [(.int (fb.toInt8.toInt32)), (.int (fb.toInt8.toInt32)), (.int (fb.toInt8.toInt32)), (.int (fb.toInt8.toInt32)), (.int (fb.toInt8.toInt32)), (.int (fb.toInt8.toInt32)), (.int (fb.toInt8.toInt32)), (.int (fb.toInt8.toInt32))] (.int (0 : Int32)) := V31
    have N31 := Fr.snoc X31 N30 (Nat.le_trans Z0 (Nat.le_of_eq g22.symm))
    show own_Run p e below Φ (T31.setTop (mkF m 156 #[.val (.int p1), .val (.int p2), .val (.int p3), .val (.int p4), .val (.int (1 : Int32)), .val (.int (p2 &&& (2147483647 : Int32))), .val (.int cp), .val (.int off), .val (.int fb), .val (.ref b22), .unset, .unset] []))
    rw [hfb] at V31
    have Q32 : Arv Z h31 b22 k22 .byte (8 : Int32) (own_z fb) (.int (0 : Int32)) := V31
    refine own_go (fun t k => XS.iload X31.here hx rfl (hb hby at_156) rfl  k) ?_
    refine own_go (fun t k => XS.aload X31.here hx rfl (hb hby at_158) rfl rfl  k) ?_
    refine own_go (fun t k => XS.iload X31.here hx rfl (hb hby at_160) rfl  k) ?_
    refine own_callS X31 hx hZ (y := (⟨"com/example/templum/templum/validation/Utf8", "encode", "(I[BI)I"⟩ : MethodName)) (W := 0) (argsL := [(.int cp), (.ref b22), (.int off)]) (rest := []) hown (hw _ (List.mem_of_getElem? (i := 2) rfl)) (hw _ (List.mem_of_getElem? (i := 3) rfl)) (hw _ (List.mem_of_getElem? (i := 4) rfl)) (hw _ (List.mem_of_getElem? (i := 5) rfl)) (by decide) (own_bk (rm_enc2 l Z a0 hw cp b22 off k22 fb (0 : Int32) h31 n0 Q32 (Nat.le_trans Z0 (Nat.le_of_eq g22.symm)) hoff hcp.1 hcp.2) hZ (hw _ (List.mem_of_getElem? (i := 5) rfl)) (hw _ (List.mem_of_getElem? (i := 4) rfl)) (by decide) (by decide)) e31 (g := (mkF m 162 #[.val (.int p1), .val (.int p2), .val (.int p3), .val (.int p4), .val (.int (1 : Int32)), .val (.int (p2 &&& (2147483647 : Int32))), .val (.int cp), .val (.int off), .val (.int fb), .val (.ref b22), .unset, .unset] [(.int off), (.ref b22), (.int cp)])) rfl (by rw [hml]; rfl) (lenOf pd_0 rfl) rfl (by show 2 * 0 + _ ≤ _; exact Nat.le_of_eq rfl) (hb hby at_162) (by decide) (by decide) (fun v33 T33 h33 L33 X33 e33 q33 => ?_)
    obtain ⟨rfl, M33, K33, P33_0⟩ := q33
    have N33 := Fr.app N31 M33
    refine own_go (fun t k => XS.istore X33.here hx rfl (hb hby at_165) rfl (l' := #[.val (.int p1), .val (.int p2), .val (.int p3), .val (.int p4), .val (.int (1 : Int32)), .val (.int (p2 &&& (2147483647 : Int32))), .val (.int cp), .val (.int off), .val (.int fb), .val (.ref b22), .val (.int (2 : Int32)), .unset]) rfl k) ?_
    show own_Run p e below Φ (T33.setTop (mkF m 167 #[.val (.int p1), .val (.int p2), .val (.int p3), .val (.int p4), .val (.int (1 : Int32)), .val (.int (p2 &&& (2147483647 : Int32))), .val (.int cp), .val (.int off), .val (.int fb), .val (.ref b22), .val (.int (2 : Int32)), .unset] []))
    refine own_go (fun t k => XS.iload X33.here hx rfl (hb hby at_167) rfl  k) ?_
    refine own_go (fun t k => XS.iload X33.here hx rfl (hb hby at_169) rfl  k) ?_
    refine own_go (fun t k => XS.iconst X33.here hx rfl (hb hby at_171) k) ?_
    refine own_go (fun t k => XS.iadd X33.here hx rfl (hb hby at_172) rfl k) ?_
    show own_Run p e below Φ (T33.setTop (mkF m 173 #[.val (.int p1), .val (.int p2), .val (.int p3), .val (.int p4), .val (.int (1 : Int32)), .val (.int (p2 &&& (2147483647 : Int32))), .val (.int cp), .val (.int off), .val (.int fb), .val (.ref b22), .val (.int (2 : Int32)), .unset] [(.int ((1 : Int32) + (1 : Int32))), (.int (2 : Int32))]))
    rw [show ((1 : Int32) + (1 : Int32)) = (2 : Int32) from by decide]
    show own_Run p e below Φ (T33.setTop (mkF m 173 #[.val (.int p1), .val (.int p2), .val (.int p3), .val (.int p4), .val (.int (1 : Int32)), .val (.int (p2 &&& (2147483647 : Int32))), .val (.int cp), .val (.int off), .val (.int fb), .val (.ref b22), .val (.int (2 : Int32)), .unset] [(.int (2 : Int32)), (.int (2 : Int32))]))
    refine own_go (fun t k => XS.icmpYes X33.here hx rfl (pc0 := 173) (pc' := 178) rfl (hb hby at_173) rfl (teq (rfl : (2 : Int32) = (2 : Int32))).1 (by decide) (by decide) k) ?_
    refine own_go (fun t k => XS.aload X33.here hx rfl (hb hby at_178) rfl rfl  k) ?_
    refine own_go (fun t k => XS.iconst X33.here hx rfl (hb hby at_180) k) ?_
    refine own_go (fun t k => XS.iload X33.here hx rfl (hb hby at_181) rfl  k) ?_
    refine own_go (fun t k => XS.iload X33.here hx rfl (hb hby at_183) rfl  k) ?_
    show own_Run p e below Φ (T33.setTop (mkF m 185 #[.val (.int p1), .val (.int p2), .val (.int p3), .val (.int p4), .val (.int (1 : Int32)), .val (.int (p2 &&& (2147483647 : Int32))), .val (.int cp), .val (.int off), .val (.int fb), .val (.ref b22), .val (.int (2 : Int32)), .unset] [(.int (2 : Int32)), (.int off), (.int (0 : Int32)), (.ref b22)]))
    refine own_go (fun t k => XS.iload X33.here hx rfl (hb hby at_185) rfl  k) ?_
    refine own_callS X33 hx hZ (y := (⟨"com/example/templum/templum/validation/Utf8EncodePinLaw", "kept", "([BIIIB)Z"⟩ : MethodName)) (W := 0) (argsL := [(.ref b22), (.int (0 : Int32)), (.int off), (.int (2 : Int32)), (.int fb)]) (rest := []) hown (hw _ (List.mem_of_getElem? (i := 6) rfl)) (hw _ (List.mem_of_getElem? (i := 7) rfl)) (hw _ (List.mem_of_getElem? (i := 8) rfl)) (hw _ (List.mem_of_getElem? (i := 9) rfl)) (by decide) (own_bk (rm_kept l Z a0 hw b22 (0 : Int32) off (2 : Int32) fb k22 (own_v2 fb off (((192 : Int32) ||| (cp >>> ((6 : Int32) &&& 31))).toInt8.toInt32) (((128 : Int32) ||| (cp &&& (63 : Int32))).toInt8.toInt32)) (0 : Int32) h33 n0 P33_0 ⟨by decide, by decide⟩ (own_k20 hoff)) hZ (hw _ (List.mem_of_getElem? (i := 9) rfl)) (hw _ (List.mem_of_getElem? (i := 8) rfl)) (by decide) (by decide)) e33 (g := (mkF m 187 #[.val (.int p1), .val (.int p2), .val (.int p3), .val (.int p4), .val (.int (1 : Int32)), .val (.int (p2 &&& (2147483647 : Int32))), .val (.int cp), .val (.int off), .val (.int fb), .val (.ref b22), .val (.int (2 : Int32)), .unset] [(.int fb), (.int (2 : Int32)), (.int off), (.int (0 : Int32)), (.ref b22)])) rfl (by rw [hml]; rfl) (lenOf pd_1 rfl) rfl (by show 2 * 0 + _ ≤ _; exact Nat.le_of_eq rfl) (hb hby at_187) (by decide) (by decide) (fun v34 T34 h34 L34 X34 e34 q34 => ?_)
    obtain ⟨rfl, M34, s34⟩ := q34
    replace e34 : T34.heap = h33 := e34.trans s34
    have N34 := Fr.app N33 M34
    refine own_go (fun t k => XS.ifNo X34.here hx rfl (hb hby at_190) rfl ((if0 _ _).trans (feq (by decide : ¬ ((1 : Int32) = (0 : Int32)))).1) k) ?_
    refine own_go (fun t k => XS.aload X34.here hx rfl (hb hby at_193) rfl rfl  k) ?_
    refine own_go (fun t k => XS.iconst X34.here hx rfl (hb hby at_195) k) ?_
    show own_Run p e below Φ (T34.setTop (mkF m 196 #[.val (.int p1), .val (.int p2), .val (.int p3), .val (.int p4), .val (.int (1 : Int32)), .val (.int (p2 &&& (2147483647 : Int32))), .val (.int cp), .val (.int off), .val (.int fb), .val (.ref b22), .val (.int (2 : Int32)), .unset] [(.int (1 : Int32)), (.ref b22)]))
    refine own_go (fun t k => XS.iload X34.here hx rfl (hb hby at_196) rfl  k) ?_
    refine own_go (fun t k => XS.iload X34.here hx rfl (hb hby at_198) rfl  k) ?_
    refine own_go (fun t k => XS.iload X34.here hx rfl (hb hby at_200) rfl  k) ?_
    refine own_callS X34 hx hZ (y := (⟨"com/example/templum/templum/validation/Utf8EncodePinLaw", "kept", "([BIIIB)Z"⟩ : MethodName)) (W := 0) (argsL := [(.ref b22), (.int (1 : Int32)), (.int off), (.int (2 : Int32)), (.int fb)]) (rest := []) hown (hw _ (List.mem_of_getElem? (i := 6) rfl)) (hw _ (List.mem_of_getElem? (i := 7) rfl)) (hw _ (List.mem_of_getElem? (i := 8) rfl)) (hw _ (List.mem_of_getElem? (i := 9) rfl)) (by decide) (own_bk (rm_kept l Z a0 hw b22 (1 : Int32) off (2 : Int32) fb k22 (own_v2 fb off (((192 : Int32) ||| (cp >>> ((6 : Int32) &&& 31))).toInt8.toInt32) (((128 : Int32) ||| (cp &&& (63 : Int32))).toInt8.toInt32)) (0 : Int32) h33 n0 P33_0 ⟨by decide, by decide⟩ (own_k21 hoff)) hZ (hw _ (List.mem_of_getElem? (i := 9) rfl)) (hw _ (List.mem_of_getElem? (i := 8) rfl)) (by decide) (by decide)) e34 (g := (mkF m 202 #[.val (.int p1), .val (.int p2), .val (.int p3), .val (.int p4), .val (.int (1 : Int32)), .val (.int (p2 &&& (2147483647 : Int32))), .val (.int cp), .val (.int off), .val (.int fb), .val (.ref b22), .val (.int (2 : Int32)), .unset] [(.int fb), (.int (2 : Int32)), (.int off), (.int (1 : Int32)), (.ref b22)])) rfl (by rw [hml]; rfl) (lenOf pd_1 rfl) rfl (by show 2 * 0 + _ ≤ _; exact Nat.le_of_eq rfl) (hb hby at_202) (by decide) (by decide) (fun v35 T35 h35 L35 X35 e35 q35 => ?_)
    obtain ⟨rfl, M35, s35⟩ := q35
    replace e35 : T35.heap = h33 := e35.trans s35
    have N35 := Fr.app N34 M35
    refine own_go (fun t k => XS.ifNo X35.here hx rfl (hb hby at_205) rfl ((if0 _ _).trans (feq (by decide : ¬ ((1 : Int32) = (0 : Int32)))).1) k) ?_
    show own_Run p e below Φ (T35.setTop (mkF m 208 #[.val (.int p1), .val (.int p2), .val (.int p3), .val (.int p4), .val (.int (1 : Int32)), .val (.int (p2 &&& (2147483647 : Int32))), .val (.int cp), .val (.int off), .val (.int fb), .val (.ref b22), .val (.int (2 : Int32)), .unset] []))
    refine own_go (fun t k => XS.aload X35.here hx rfl (hb hby at_208) rfl rfl  k) ?_
    refine own_go (fun t k => XS.iconst X35.here hx rfl (hb hby at_210) k) ?_
    refine own_go (fun t k => XS.iload X35.here hx rfl (hb hby at_211) rfl  k) ?_
    refine own_go (fun t k => XS.iload X35.here hx rfl (hb hby at_213) rfl  k) ?_
    refine own_go (fun t k => XS.iload X35.here hx rfl (hb hby at_215) rfl  k) ?_
    show own_Run p e below Φ (T35.setTop (mkF m 217 #[.val (.int p1), .val (.int p2), .val (.int p3), .val (.int p4), .val (.int (1 : Int32)), .val (.int (p2 &&& (2147483647 : Int32))), .val (.int cp), .val (.int off), .val (.int fb), .val (.ref b22), .val (.int (2 : Int32)), .unset] [(.int fb), (.int (2 : Int32)), (.int off), (.int (2 : Int32)), (.ref b22)]))
    refine own_callS X35 hx hZ (y := (⟨"com/example/templum/templum/validation/Utf8EncodePinLaw", "kept", "([BIIIB)Z"⟩ : MethodName)) (W := 0) (argsL := [(.ref b22), (.int (2 : Int32)), (.int off), (.int (2 : Int32)), (.int fb)]) (rest := []) hown (hw _ (List.mem_of_getElem? (i := 6) rfl)) (hw _ (List.mem_of_getElem? (i := 7) rfl)) (hw _ (List.mem_of_getElem? (i := 8) rfl)) (hw _ (List.mem_of_getElem? (i := 9) rfl)) (by decide) (own_bk (rm_kept l Z a0 hw b22 (2 : Int32) off (2 : Int32) fb k22 (own_v2 fb off (((192 : Int32) ||| (cp >>> ((6 : Int32) &&& 31))).toInt8.toInt32) (((128 : Int32) ||| (cp &&& (63 : Int32))).toInt8.toInt32)) (0 : Int32) h33 n0 P33_0 ⟨by decide, by decide⟩ (own_k22 hoff)) hZ (hw _ (List.mem_of_getElem? (i := 9) rfl)) (hw _ (List.mem_of_getElem? (i := 8) rfl)) (by decide) (by decide)) e35 (g := (mkF m 217 #[.val (.int p1), .val (.int p2), .val (.int p3), .val (.int p4), .val (.int (1 : Int32)), .val (.int (p2 &&& (2147483647 : Int32))), .val (.int cp), .val (.int off), .val (.int fb), .val (.ref b22), .val (.int (2 : Int32)), .unset] [(.int fb), (.int (2 : Int32)), (.int off), (.int (2 : Int32)), (.ref b22)])) rfl (by rw [hml]; rfl) (lenOf pd_1 rfl) rfl (by show 2 * 0 + _ ≤ _; exact Nat.le_of_eq rfl) (hb hby at_217) (by decide) (by decide) (fun v36 T36 h36 L36 X36 e36 q36 => ?_)
    obtain ⟨rfl, M36, s36⟩ := q36
    replace e36 : T36.heap = h33 := e36.trans s36
    have N36 := Fr.app N35 M36
    refine own_go (fun t k => XS.ifNo X36.here hx rfl (hb hby at_220) rfl ((if0 _ _).trans (feq (by decide : ¬ ((1 : Int32) = (0 : Int32)))).1) k) ?_
    refine own_go (fun t k => XS.aload X36.here hx rfl (hb hby at_223) rfl rfl  k) ?_
    refine own_go (fun t k => XS.iconst X36.here hx rfl (hb hby at_225) k) ?_
    refine own_go (fun t k => XS.iload X36.here hx rfl (hb hby at_226) rfl  k) ?_
    show own_Run p e below Φ (T36.setTop (mkF m 228 #[.val (.int p1), .val (.int p2), .val (.int p3), .val (.int p4), .val (.int (1 : Int32)), .val (.int (p2 &&& (2147483647 : Int32))), .val (.int cp), .val (.int off), .val (.int fb), .val (.ref b22), .val (.int (2 : Int32)), .unset] [(.int off), (.int (3 : Int32)), (.ref b22)]))
    refine own_go (fun t k => XS.iload X36.here hx rfl (hb hby at_228) rfl  k) ?_
    refine own_go (fun t k => XS.iload X36.here hx rfl (hb hby at_230) rfl  k) ?_
    refine own_callS X36 hx hZ (y := (⟨"com/example/templum/templum/validation/Utf8EncodePinLaw", "kept", "([BIIIB)Z"⟩ : MethodName)) (W := 0) (argsL := [(.ref b22), (.int (3 : Int32)), (.int off), (.int (2 : Int32)), (.int fb)]) (rest := []) hown (hw _ (List.mem_of_getElem? (i := 6) rfl)) (hw _ (List.mem_of_getElem? (i := 7) rfl)) (hw _ (List.mem_of_getElem? (i := 8) rfl)) (hw _ (List.mem_of_getElem? (i := 9) rfl)) (by decide) (own_bk (rm_kept l Z a0 hw b22 (3 : Int32) off (2 : Int32) fb k22 (own_v2 fb off (((192 : Int32) ||| (cp >>> ((6 : Int32) &&& 31))).toInt8.toInt32) (((128 : Int32) ||| (cp &&& (63 : Int32))).toInt8.toInt32)) (0 : Int32) h33 n0 P33_0 ⟨by decide, by decide⟩ (own_k23 hoff)) hZ (hw _ (List.mem_of_getElem? (i := 9) rfl)) (hw _ (List.mem_of_getElem? (i := 8) rfl)) (by decide) (by decide)) e36 (g := (mkF m 232 #[.val (.int p1), .val (.int p2), .val (.int p3), .val (.int p4), .val (.int (1 : Int32)), .val (.int (p2 &&& (2147483647 : Int32))), .val (.int cp), .val (.int off), .val (.int fb), .val (.ref b22), .val (.int (2 : Int32)), .unset] [(.int fb), (.int (2 : Int32)), (.int off), (.int (3 : Int32)), (.ref b22)])) rfl (by rw [hml]; rfl) (lenOf pd_1 rfl) rfl (by show 2 * 0 + _ ≤ _; exact Nat.le_of_eq rfl) (hb hby at_232) (by decide) (by decide) (fun v37 T37 h37 L37 X37 e37 q37 => ?_)
    obtain ⟨rfl, M37, s37⟩ := q37
    replace e37 : T37.heap = h33 := e37.trans s37
    have N37 := Fr.app N36 M37
    refine own_go (fun t k => XS.ifNo X37.here hx rfl (hb hby at_235) rfl ((if0 _ _).trans (feq (by decide : ¬ ((1 : Int32) = (0 : Int32)))).1) k) ?_
    refine own_go (fun t k => XS.aload X37.here hx rfl (hb hby at_238) rfl rfl  k) ?_
    show own_Run p e below Φ (T37.setTop (mkF m 240 #[.val (.int p1), .val (.int p2), .val (.int p3), .val (.int p4), .val (.int (1 : Int32)), .val (.int (p2 &&& (2147483647 : Int32))), .val (.int cp), .val (.int off), .val (.int fb), .val (.ref b22), .val (.int (2 : Int32)), .unset] [(.ref b22)]))
    refine own_go (fun t k => XS.iconst X37.here hx rfl (hb hby at_240) k) ?_
    refine own_go (fun t k => XS.iload X37.here hx rfl (hb hby at_241) rfl  k) ?_
    refine own_go (fun t k => XS.iload X37.here hx rfl (hb hby at_243) rfl  k) ?_
    refine own_go (fun t k => XS.iload X37.here hx rfl (hb hby at_245) rfl  k) ?_
    refine own_callS X37 hx hZ (y := (⟨"com/example/templum/templum/validation/Utf8EncodePinLaw", "kept", "([BIIIB)Z"⟩ : MethodName)) (W := 0) (argsL := [(.ref b22), (.int (4 : Int32)), (.int off), (.int (2 : Int32)), (.int fb)]) (rest := []) hown (hw _ (List.mem_of_getElem? (i := 6) rfl)) (hw _ (List.mem_of_getElem? (i := 7) rfl)) (hw _ (List.mem_of_getElem? (i := 8) rfl)) (hw _ (List.mem_of_getElem? (i := 9) rfl)) (by decide) (own_bk (rm_kept l Z a0 hw b22 (4 : Int32) off (2 : Int32) fb k22 (own_v2 fb off (((192 : Int32) ||| (cp >>> ((6 : Int32) &&& 31))).toInt8.toInt32) (((128 : Int32) ||| (cp &&& (63 : Int32))).toInt8.toInt32)) (0 : Int32) h33 n0 P33_0 ⟨by decide, by decide⟩ (own_k24 hoff)) hZ (hw _ (List.mem_of_getElem? (i := 9) rfl)) (hw _ (List.mem_of_getElem? (i := 8) rfl)) (by decide) (by decide)) e37 (g := (mkF m 247 #[.val (.int p1), .val (.int p2), .val (.int p3), .val (.int p4), .val (.int (1 : Int32)), .val (.int (p2 &&& (2147483647 : Int32))), .val (.int cp), .val (.int off), .val (.int fb), .val (.ref b22), .val (.int (2 : Int32)), .unset] [(.int fb), (.int (2 : Int32)), (.int off), (.int (4 : Int32)), (.ref b22)])) rfl (by rw [hml]; rfl) (lenOf pd_1 rfl) rfl (by show 2 * 0 + _ ≤ _; exact Nat.le_of_eq rfl) (hb hby at_247) (by decide) (by decide) (fun v38 T38 h38 L38 X38 e38 q38 => ?_)
    obtain ⟨rfl, M38, s38⟩ := q38
    replace e38 : T38.heap = h33 := e38.trans s38
    have N38 := Fr.app N37 M38
    show own_Run p e below Φ (T38.setTop (mkF m 250 #[.val (.int p1), .val (.int p2), .val (.int p3), .val (.int p4), .val (.int (1 : Int32)), .val (.int (p2 &&& (2147483647 : Int32))), .val (.int cp), .val (.int off), .val (.int fb), .val (.ref b22), .val (.int (2 : Int32)), .unset] [(.int (1 : Int32))]))
    refine own_go (fun t k => XS.ifNo X38.here hx rfl (hb hby at_250) rfl ((if0 _ _).trans (feq (by decide : ¬ ((1 : Int32) = (0 : Int32)))).1) k) ?_
    refine own_go (fun t k => XS.aload X38.here hx rfl (hb hby at_253) rfl rfl  k) ?_
    refine own_go (fun t k => XS.iconst X38.here hx rfl (hb hby at_255) k) ?_
    refine own_go (fun t k => XS.iload X38.here hx rfl (hb hby at_256) rfl  k) ?_
    refine own_go (fun t k => XS.iload X38.here hx rfl (hb hby at_258) rfl  k) ?_
    show own_Run p e below Φ (T38.setTop (mkF m 260 #[.val (.int p1), .val (.int p2), .val (.int p3), .val (.int p4), .val (.int (1 : Int32)), .val (.int (p2 &&& (2147483647 : Int32))), .val (.int cp), .val (.int off), .val (.int fb), .val (.ref b22), .val (.int (2 : Int32)), .unset] [(.int (2 : Int32)), (.int off), (.int (5 : Int32)), (.ref b22)]))
    refine own_go (fun t k => XS.iload X38.here hx rfl (hb hby at_260) rfl  k) ?_
    refine own_callS X38 hx hZ (y := (⟨"com/example/templum/templum/validation/Utf8EncodePinLaw", "kept", "([BIIIB)Z"⟩ : MethodName)) (W := 0) (argsL := [(.ref b22), (.int (5 : Int32)), (.int off), (.int (2 : Int32)), (.int fb)]) (rest := []) hown (hw _ (List.mem_of_getElem? (i := 6) rfl)) (hw _ (List.mem_of_getElem? (i := 7) rfl)) (hw _ (List.mem_of_getElem? (i := 8) rfl)) (hw _ (List.mem_of_getElem? (i := 9) rfl)) (by decide) (own_bk (rm_kept l Z a0 hw b22 (5 : Int32) off (2 : Int32) fb k22 (own_v2 fb off (((192 : Int32) ||| (cp >>> ((6 : Int32) &&& 31))).toInt8.toInt32) (((128 : Int32) ||| (cp &&& (63 : Int32))).toInt8.toInt32)) (0 : Int32) h33 n0 P33_0 ⟨by decide, by decide⟩ (own_k25 hoff)) hZ (hw _ (List.mem_of_getElem? (i := 9) rfl)) (hw _ (List.mem_of_getElem? (i := 8) rfl)) (by decide) (by decide)) e38 (g := (mkF m 262 #[.val (.int p1), .val (.int p2), .val (.int p3), .val (.int p4), .val (.int (1 : Int32)), .val (.int (p2 &&& (2147483647 : Int32))), .val (.int cp), .val (.int off), .val (.int fb), .val (.ref b22), .val (.int (2 : Int32)), .unset] [(.int fb), (.int (2 : Int32)), (.int off), (.int (5 : Int32)), (.ref b22)])) rfl (by rw [hml]; rfl) (lenOf pd_1 rfl) rfl (by show 2 * 0 + _ ≤ _; exact Nat.le_of_eq rfl) (hb hby at_262) (by decide) (by decide) (fun v39 T39 h39 L39 X39 e39 q39 => ?_)
    obtain ⟨rfl, M39, s39⟩ := q39
    replace e39 : T39.heap = h33 := e39.trans s39
    have N39 := Fr.app N38 M39
    refine own_go (fun t k => XS.ifNo X39.here hx rfl (hb hby at_265) rfl ((if0 _ _).trans (feq (by decide : ¬ ((1 : Int32) = (0 : Int32)))).1) k) ?_
    refine own_go (fun t k => XS.aload X39.here hx rfl (hb hby at_268) rfl rfl  k) ?_
    refine own_go (fun t k => XS.bipush X39.here hx rfl (hb hby at_270) k) ?_
    show own_Run p e below Φ (T39.setTop (mkF m 272 #[.val (.int p1), .val (.int p2), .val (.int p3), .val (.int p4), .val (.int (1 : Int32)), .val (.int (p2 &&& (2147483647 : Int32))), .val (.int cp), .val (.int off), .val (.int fb), .val (.ref b22), .val (.int (2 : Int32)), .unset] [(.int (6 : Int32)), (.ref b22)]))
    refine own_go (fun t k => XS.iload X39.here hx rfl (hb hby at_272) rfl  k) ?_
    refine own_go (fun t k => XS.iload X39.here hx rfl (hb hby at_274) rfl  k) ?_
    refine own_go (fun t k => XS.iload X39.here hx rfl (hb hby at_276) rfl  k) ?_
    refine own_callS X39 hx hZ (y := (⟨"com/example/templum/templum/validation/Utf8EncodePinLaw", "kept", "([BIIIB)Z"⟩ : MethodName)) (W := 0) (argsL := [(.ref b22), (.int (6 : Int32)), (.int off), (.int (2 : Int32)), (.int fb)]) (rest := []) hown (hw _ (List.mem_of_getElem? (i := 6) rfl)) (hw _ (List.mem_of_getElem? (i := 7) rfl)) (hw _ (List.mem_of_getElem? (i := 8) rfl)) (hw _ (List.mem_of_getElem? (i := 9) rfl)) (by decide) (own_bk (rm_kept l Z a0 hw b22 (6 : Int32) off (2 : Int32) fb k22 (own_v2 fb off (((192 : Int32) ||| (cp >>> ((6 : Int32) &&& 31))).toInt8.toInt32) (((128 : Int32) ||| (cp &&& (63 : Int32))).toInt8.toInt32)) (0 : Int32) h33 n0 P33_0 ⟨by decide, by decide⟩ (own_k26 hoff)) hZ (hw _ (List.mem_of_getElem? (i := 9) rfl)) (hw _ (List.mem_of_getElem? (i := 8) rfl)) (by decide) (by decide)) e39 (g := (mkF m 278 #[.val (.int p1), .val (.int p2), .val (.int p3), .val (.int p4), .val (.int (1 : Int32)), .val (.int (p2 &&& (2147483647 : Int32))), .val (.int cp), .val (.int off), .val (.int fb), .val (.ref b22), .val (.int (2 : Int32)), .unset] [(.int fb), (.int (2 : Int32)), (.int off), (.int (6 : Int32)), (.ref b22)])) rfl (by rw [hml]; rfl) (lenOf pd_1 rfl) rfl (by show 2 * 0 + _ ≤ _; exact Nat.le_of_eq rfl) (hb hby at_278) (by decide) (by decide) (fun v40 T40 h40 L40 X40 e40 q40 => ?_)
    obtain ⟨rfl, M40, s40⟩ := q40
    replace e40 : T40.heap = h33 := e40.trans s40
    have N40 := Fr.app N39 M40
    refine own_go (fun t k => XS.ifNo X40.here hx rfl (hb hby at_281) rfl ((if0 _ _).trans (feq (by decide : ¬ ((1 : Int32) = (0 : Int32)))).1) k) ?_
    show own_Run p e below Φ (T40.setTop (mkF m 284 #[.val (.int p1), .val (.int p2), .val (.int p3), .val (.int p4), .val (.int (1 : Int32)), .val (.int (p2 &&& (2147483647 : Int32))), .val (.int cp), .val (.int off), .val (.int fb), .val (.ref b22), .val (.int (2 : Int32)), .unset] []))
    refine own_go (fun t k => XS.aload X40.here hx rfl (hb hby at_284) rfl rfl  k) ?_
    refine own_go (fun t k => XS.bipush X40.here hx rfl (hb hby at_286) k) ?_
    refine own_go (fun t k => XS.iload X40.here hx rfl (hb hby at_288) rfl  k) ?_
    refine own_go (fun t k => XS.iload X40.here hx rfl (hb hby at_290) rfl  k) ?_
    refine own_go (fun t k => XS.iload X40.here hx rfl (hb hby at_292) rfl  k) ?_
    show own_Run p e below Φ (T40.setTop (mkF m 294 #[.val (.int p1), .val (.int p2), .val (.int p3), .val (.int p4), .val (.int (1 : Int32)), .val (.int (p2 &&& (2147483647 : Int32))), .val (.int cp), .val (.int off), .val (.int fb), .val (.ref b22), .val (.int (2 : Int32)), .unset] [(.int fb), (.int (2 : Int32)), (.int off), (.int (7 : Int32)), (.ref b22)]))
    refine own_callS X40 hx hZ (y := (⟨"com/example/templum/templum/validation/Utf8EncodePinLaw", "kept", "([BIIIB)Z"⟩ : MethodName)) (W := 0) (argsL := [(.ref b22), (.int (7 : Int32)), (.int off), (.int (2 : Int32)), (.int fb)]) (rest := []) hown (hw _ (List.mem_of_getElem? (i := 6) rfl)) (hw _ (List.mem_of_getElem? (i := 7) rfl)) (hw _ (List.mem_of_getElem? (i := 8) rfl)) (hw _ (List.mem_of_getElem? (i := 9) rfl)) (by decide) (own_bk (rm_kept l Z a0 hw b22 (7 : Int32) off (2 : Int32) fb k22 (own_v2 fb off (((192 : Int32) ||| (cp >>> ((6 : Int32) &&& 31))).toInt8.toInt32) (((128 : Int32) ||| (cp &&& (63 : Int32))).toInt8.toInt32)) (0 : Int32) h33 n0 P33_0 ⟨by decide, by decide⟩ (own_k27 hoff)) hZ (hw _ (List.mem_of_getElem? (i := 9) rfl)) (hw _ (List.mem_of_getElem? (i := 8) rfl)) (by decide) (by decide)) e40 (g := (mkF m 294 #[.val (.int p1), .val (.int p2), .val (.int p3), .val (.int p4), .val (.int (1 : Int32)), .val (.int (p2 &&& (2147483647 : Int32))), .val (.int cp), .val (.int off), .val (.int fb), .val (.ref b22), .val (.int (2 : Int32)), .unset] [(.int fb), (.int (2 : Int32)), (.int off), (.int (7 : Int32)), (.ref b22)])) rfl (by rw [hml]; rfl) (lenOf pd_1 rfl) rfl (by show 2 * 0 + _ ≤ _; exact Nat.le_of_eq rfl) (hb hby at_294) (by decide) (by decide) (fun v41 T41 h41 L41 X41 e41 q41 => ?_)
    obtain ⟨rfl, M41, s41⟩ := q41
    replace e41 : T41.heap = h33 := e41.trans s41
    have N41 := Fr.app N40 M41
    refine own_go (fun t k => XS.ifNo X41.here hx rfl (hb hby at_297) rfl ((if0 _ _).trans (feq (by decide : ¬ ((1 : Int32) = (0 : Int32)))).1) k) ?_
    refine own_go (fun t k => XS.iconst X41.here hx rfl (hb hby at_300) k) ?_
    refine own_go (fun t k => XS.goto X41.here hx rfl (pc0 := 301) (pc' := 305) rfl (hb hby at_301) (by decide) (by decide) k) ?_
    refine own_go (fun t k => XS.istore X41.here hx rfl (hb hby at_305) rfl (l' := #[.val (.int p1), .val (.int p2), .val (.int p3), .val (.int p4), .val (.int (1 : Int32)), .val (.int (p2 &&& (2147483647 : Int32))), .val (.int cp), .val (.int off), .val (.int fb), .val (.ref b22), .val (.int (2 : Int32)), .val (.int (1 : Int32))]) rfl k) ?_
    show own_Run p e below Φ (T41.setTop (mkF m 307 #[.val (.int p1), .val (.int p2), .val (.int p3), .val (.int p4), .val (.int (1 : Int32)), .val (.int (p2 &&& (2147483647 : Int32))), .val (.int cp), .val (.int off), .val (.int fb), .val (.ref b22), .val (.int (2 : Int32)), .val (.int (1 : Int32))] []))
    refine own_go (fun t k => XS.iload X41.here hx rfl (hb hby at_307) rfl  k) ?_
    refine own_go (fun t k => XS.ifYes X41.here hx rfl (pc0 := 309) (pc' := 314) rfl (hb hby at_309) rfl ((if0 _ _).trans (feq (by decide : ¬ ((1 : Int32) = (0 : Int32)))).2) (by decide) (by decide) k) ?_
    refine own_go (fun t k => XS.aload X41.here hx rfl (hb hby at_314) rfl rfl  k) ?_
    refine own_go (fun t k => XS.iload X41.here hx rfl (hb hby at_316) rfl  k) ?_
    refine own_baload X41 hx hZ e41 P33_0 (j := off) (v := (.int (((192 : Int32) ||| (cp >>> ((6 : Int32) &&& 31))).toInt8.toInt32))) (own_o0 hoff) (own_g20 hoff) (g := (mkF m 318 #[.val (.int p1), .val (.int p2), .val (.int p3), .val (.int p4), .val (.int (1 : Int32)), .val (.int (p2 &&& (2147483647 : Int32))), .val (.int cp), .val (.int off), .val (.int fb), .val (.ref b22), .val (.int (2 : Int32)), .val (.int (1 : Int32))] [(.int off), (.ref b22)])) rfl rfl (hb hby at_318) ?_
    show own_Run p e below Φ (T41.setTop (mkF m 319 #[.val (.int p1), .val (.int p2), .val (.int p3), .val (.int p4), .val (.int (1 : Int32)), .val (.int (p2 &&& (2147483647 : Int32))), .val (.int cp), .val (.int off), .val (.int fb), .val (.ref b22), .val (.int (2 : Int32)), .val (.int (1 : Int32))] [(.int (((192 : Int32) ||| (cp >>> ((6 : Int32) &&& 31))).toInt8.toInt32))]))
    refine own_callS X41 hx hZ (y := (⟨"com/example/templum/templum/validation/Utf8", "length", "(B)I"⟩ : MethodName)) (W := 0) (argsL := [(.int (((192 : Int32) ||| (cp >>> ((6 : Int32) &&& 31))).toInt8.toInt32))]) (rest := []) hown (hw _ (List.mem_of_getElem? (i := 10) rfl)) (hw _ (List.mem_of_getElem? (i := 11) rfl)) (hw _ (List.mem_of_getElem? (i := 4) rfl)) (hw _ (List.mem_of_getElem? (i := 12) rfl)) (by decide) (own_bk (rm_len l Z a0 hw (((192 : Int32) ||| (cp >>> ((6 : Int32) &&& 31))).toInt8.toInt32) h33 n0 ) hZ (hw _ (List.mem_of_getElem? (i := 12) rfl)) (hw _ (List.mem_of_getElem? (i := 4) rfl)) (by decide) (by decide)) e41 (g := (mkF m 319 #[.val (.int p1), .val (.int p2), .val (.int p3), .val (.int p4), .val (.int (1 : Int32)), .val (.int (p2 &&& (2147483647 : Int32))), .val (.int cp), .val (.int off), .val (.int fb), .val (.ref b22), .val (.int (2 : Int32)), .val (.int (1 : Int32))] [(.int (((192 : Int32) ||| (cp >>> ((6 : Int32) &&& 31))).toInt8.toInt32))])) rfl (by rw [hml]; rfl) (lenOf pd_2 rfl) rfl (by show 2 * 0 + _ ≤ _; exact Nat.le_of_eq rfl) (hb hby at_319) (by decide) (by decide) (fun v42 T42 h42 L42 X42 e42 q42 => ?_)
    obtain ⟨rfl, M42, s42⟩ := q42
    replace e42 : T42.heap = h33 := e42.trans s42
    have N42 := Fr.app N41 M42
    refine own_go (fun t k => XS.iload X42.here hx rfl (hb hby at_322) rfl  k) ?_
    have hc324 : (own_len8 (((192 : Int32) ||| (cp >>> ((6 : Int32) &&& 31))).toInt8.toInt32)) = (2 : Int32) := (own_m2 hcp.1 hcp.2)
    refine own_go (fun t k => XS.icmpYes X42.here hx rfl (pc0 := 324) (pc' := 329) rfl (hb hby at_324) rfl (teq hc324).1 (by decide) (by decide) k) ?_
    refine own_go (fun t k => XS.iload X42.here hx rfl (hb hby at_329) rfl  k) ?_
    refine own_go (fun t k => XS.iconst X42.here hx rfl (hb hby at_331) k) ?_
    show own_Run p e below Φ (T42.setTop (mkF m 332 #[.val (.int p1), .val (.int p2), .val (.int p3), .val (.int p4), .val (.int (1 : Int32)), .val (.int (p2 &&& (2147483647 : Int32))), .val (.int cp), .val (.int off), .val (.int fb), .val (.ref b22), .val (.int (2 : Int32)), .val (.int (1 : Int32))] [(.int (1 : Int32)), (.int (2 : Int32))]))
    refine own_go (fun t k => XS.icmpYes X42.here hx rfl (pc0 := 332) (pc' := 352) rfl (hb hby at_332) rfl (feq (by decide : ¬ ((2 : Int32) = (1 : Int32)))).2 (by decide) (by decide) k) ?_
    refine own_go (fun t k => XS.aload X42.here hx rfl (hb hby at_352) rfl rfl  k) ?_
    refine own_go (fun t k => XS.iload X42.here hx rfl (hb hby at_354) rfl  k) ?_
    refine own_go (fun t k => XS.iload X42.here hx rfl (hb hby at_356) rfl  k) ?_
    have F43 : Old Z n0 h33 := ((((((((((O0.ext E22).wr W24 (Nat.le_trans Z0 (Nat.le_of_eq g22.symm))).wr W25 (Nat.le_trans Z0 (Nat.le_of_eq g22.symm))).wr W26 (Nat.le_trans Z0 (Nat.le_of_eq g22.symm))).wr W27 (Nat.le_trans Z0 (Nat.le_of_eq g22.symm))).wr W28 (Nat.le_trans Z0 (Nat.le_of_eq g22.symm))).wr W29 (Nat.le_trans Z0 (Nat.le_of_eq g22.symm))).wr W30 (Nat.le_trans Z0 (Nat.le_of_eq g22.symm))).wr W31 (Nat.le_trans Z0 (Nat.le_of_eq g22.symm))).keep K33 (allS (Nat.le_trans Z0 (Nat.le_of_eq g22.symm)) all0))
    have F44 : Arv Z h33 w1 kw .int (5 : Int32) [(.int (0 : Int32)), (.int (0 : Int32)), (.int (128 : Int32)), (.int (2048 : Int32)), (.int (65536 : Int32))] (.int (0 : Int32)) := V0.ext F43.2
    refine own_callS X42 hx hZ (y := (⟨"com/example/templum/templum/validation/Utf8", "decode", "([BII)I"⟩ : MethodName)) (W := 0) (argsL := [(.ref b22), (.int off), (.int (2 : Int32))]) (rest := []) hown (hw _ (List.mem_of_getElem? (i := 16) rfl)) (hw _ (List.mem_of_getElem? (i := 17) rfl)) (hw _ (List.mem_of_getElem? (i := 4) rfl)) (hw _ (List.mem_of_getElem? (i := 18) rfl)) (by decide) (own_bk (rm_dec2 l Z a0 hw b22 off k22 (own_v2 fb off (((192 : Int32) ||| (cp >>> ((6 : Int32) &&& 31))).toInt8.toInt32) (((128 : Int32) ||| (cp &&& (63 : Int32))).toInt8.toInt32)) (0 : Int32) (((192 : Int32) ||| (cp >>> ((6 : Int32) &&& 31))).toInt8.toInt32) (((128 : Int32) ||| (cp &&& (63 : Int32))).toInt8.toInt32) w1 kw h33 n0 P33_0 F43 S0 F44 (own_o0 hoff) (own_g20 hoff) (own_o1 hoff) (own_g21 hoff)) hZ (hw _ (List.mem_of_getElem? (i := 18) rfl)) (hw _ (List.mem_of_getElem? (i := 4) rfl)) (by decide) (by decide)) e42 (g := (mkF m 358 #[.val (.int p1), .val (.int p2), .val (.int p3), .val (.int p4), .val (.int (1 : Int32)), .val (.int (p2 &&& (2147483647 : Int32))), .val (.int cp), .val (.int off), .val (.int fb), .val (.ref b22), .val (.int (2 : Int32)), .val (.int (1 : Int32))] [(.int (2 : Int32)), (.int off), (.ref b22)])) rfl (by rw [hml]; rfl) (lenOf pd_3 rfl) rfl (by show 2 * 0 + _ ≤ _; exact Nat.le_of_eq rfl) (hb hby at_358) (by decide) (by decide) (fun v45 T45 h45 L45 X45 e45 q45 => ?_)
    obtain ⟨rfl, M45, s45⟩ := q45
    replace e45 : T45.heap = h33 := e45.trans s45
    have N45 := Fr.app N42 M45
    show own_Run p e below Φ (T45.setTop (mkF m 361 #[.val (.int p1), .val (.int p2), .val (.int p3), .val (.int p4), .val (.int (1 : Int32)), .val (.int (p2 &&& (2147483647 : Int32))), .val (.int cp), .val (.int off), .val (.int fb), .val (.ref b22), .val (.int (2 : Int32)), .val (.int (1 : Int32))] [(.int (own_dec2 (((192 : Int32) ||| (cp >>> ((6 : Int32) &&& 31))).toInt8.toInt32) (((128 : Int32) ||| (cp &&& (63 : Int32))).toInt8.toInt32)))]))
    refine own_go (fun t k => XS.iload X45.here hx rfl (hb hby at_361) rfl  k) ?_
    have hc363 : (own_dec2 (((192 : Int32) ||| (cp >>> ((6 : Int32) &&& 31))).toInt8.toInt32) (((128 : Int32) ||| (cp &&& (63 : Int32))).toInt8.toInt32)) = cp := (own_d2 hcp.1 hcp.2)
    refine own_go (fun t k => XS.icmpNo X45.here hx rfl (hb hby at_363) rfl (teq hc363).2 k) ?_
    refine own_go (fun t k => XS.iconst X45.here hx rfl (hb hby at_366) k) ?_
    refine own_go (fun t k => XS.goto X45.here hx rfl (pc0 := 367) (pc' := 371) rfl (hb hby at_367) (by decide) (by decide) k) ?_
    subst hΦ
    exact own_retN X45 hx (t := .boolean) Bd.returns (by simp) hlk (hb hby at_371) e45 ⟨rfl, N45⟩ (by decide) (by decide)
  · rw [e1]
    show own_Run p e below Φ (s₁.setTop (mkF m 11 #[.val (.int p1), .val (.int p2), .val (.int p3), .val (.int p4), .val (.int (2 : Int32)), .val (.int (p2 &&& (2147483647 : Int32))), .unset, .unset, .unset, .unset, .unset, .unset] []))
    refine own_go (fun t k => XS.iload X0.here hx rfl (hb hby at_11) rfl  k) ?_
    show own_Run p e below Φ (s₁.setTop (mkF m 13 #[.val (.int p1), .val (.int p2), .val (.int p3), .val (.int p4), .val (.int (2 : Int32)), .val (.int (p2 &&& (2147483647 : Int32))), .unset, .unset, .unset, .unset, .unset, .unset] [(.int (2 : Int32))]))
    refine own_go (fun t k => XS.ifYes X0.here hx rfl (pc0 := 13) (pc' := 25) rfl (hb hby at_13) rfl ((if0 _ _).trans (feq (by decide : ¬ ((2 : Int32) = (0 : Int32)))).2) (by decide) (by decide) k) ?_
    refine own_go (fun t k => XS.iload X0.here hx rfl (hb hby at_25) rfl  k) ?_
    refine own_go (fun t k => XS.iconst X0.here hx rfl (hb hby at_27) k) ?_
    refine own_go (fun t k => XS.icmpYes X0.here hx rfl (pc0 := 28) (pc' := 46) rfl (hb hby at_28) rfl (feq (by decide : ¬ ((2 : Int32) = (1 : Int32)))).2 (by decide) (by decide) k) ?_
    refine own_go (fun t k => XS.iload X0.here hx rfl (hb hby at_46) rfl  k) ?_
    show own_Run p e below Φ (s₁.setTop (mkF m 48 #[.val (.int p1), .val (.int p2), .val (.int p3), .val (.int p4), .val (.int (2 : Int32)), .val (.int (p2 &&& (2147483647 : Int32))), .unset, .unset, .unset, .unset, .unset, .unset] [(.int (2 : Int32))]))
    refine own_go (fun t k => XS.iconst X0.here hx rfl (hb hby at_48) k) ?_
    refine own_go (fun t k => XS.icmpNo X0.here hx rfl (hb hby at_49) rfl (teq (rfl : (2 : Int32) = (2 : Int32))).2 k) ?_
    refine own_go (fun t k => XS.sipush X0.here hx rfl (hb hby at_52) k) ?_
    refine own_go (fun t k => XS.iload X0.here hx rfl (hb hby at_55) rfl  k) ?_
    refine own_go (X0.ldcInt hx hown (mvT hZ (hw _ (List.mem_of_getElem? (i := 24) rfl))) (g := (mkF m 57 #[.val (.int p1), .val (.int p2), .val (.int p3), .val (.int p4), .val (.int (2 : Int32)), .val (.int (p2 &&& (2147483647 : Int32))), .unset, .unset, .unset, .unset, .unset, .unset] [(.int (p2 &&& (2147483647 : Int32))), (.int (2048 : Int32))])) rfl (hb hby at_57)) ?_
    show own_Run p e below Φ (s₁.setTop (mkF m 59 #[.val (.int p1), .val (.int p2), .val (.int p3), .val (.int p4), .val (.int (2 : Int32)), .val (.int (p2 &&& (2147483647 : Int32))), .unset, .unset, .unset, .unset, .unset, .unset] [(.int (61440 : Int32)), (.int (p2 &&& (2147483647 : Int32))), (.int (2048 : Int32))]))
    refine own_go (fun t k => Jvm.RoadKit.iremM X0 hx rfl (hb hby at_59) rfl (by decide) k) ?_
    refine own_go (fun t k => XS.iadd X0.here hx rfl (hb hby at_60) rfl k) ?_
    refine own_go (fun t k => XS.istore X0.here hx rfl (hb hby at_61) rfl (l' := #[.val (.int p1), .val (.int p2), .val (.int p3), .val (.int p4), .val (.int (2 : Int32)), .val (.int (p2 &&& (2147483647 : Int32))), .val (.int ((2048 : Int32) + ((p2 &&& (2147483647 : Int32)) % (61440 : Int32)))), .unset, .unset, .unset, .unset, .unset]) rfl k) ?_
    show own_Run p e below Φ (s₁.setTop (mkF m 63 #[.val (.int p1), .val (.int p2), .val (.int p3), .val (.int p4), .val (.int (2 : Int32)), .val (.int (p2 &&& (2147483647 : Int32))), .val (.int ((2048 : Int32) + ((p2 &&& (2147483647 : Int32)) % (61440 : Int32)))), .unset, .unset, .unset, .unset, .unset] []))
    have hq2 := own_q2 p2
    generalize ecx : ((2048 : Int32) + ((p2 &&& (2147483647 : Int32)) % (61440 : Int32))) = cx at hq2 ⊢
    show own_Run p e below Φ (s₁.setTop (mkF m 63 #[.val (.int p1), .val (.int p2), .val (.int p3), .val (.int p4), .val (.int (2 : Int32)), .val (.int (p2 &&& (2147483647 : Int32))), .val (.int cx), .unset, .unset, .unset, .unset, .unset] []))
    refine own_go (fun t k => XS.iload X0.here hx rfl (hb hby at_63) rfl  k) ?_
    refine own_go (X0.ldcInt hx hown (mvT hZ (hw _ (List.mem_of_getElem? (i := 25) rfl))) (g := (mkF m 65 #[.val (.int p1), .val (.int p2), .val (.int p3), .val (.int p4), .val (.int (2 : Int32)), .val (.int (p2 &&& (2147483647 : Int32))), .val (.int cx), .unset, .unset, .unset, .unset, .unset] [(.int cx)])) rfl (hb hby at_65)) ?_
    by_cases hc67 : cx < (55296 : Int32)
    · refine own_go (fun t k => XS.icmpYes X0.here hx rfl (pc0 := 67) (pc' := 91) rfl (hb hby at_67) rfl (tlt hc67).1 (by decide) (by decide) k) ?_
      show own_Run p e below Φ (s₁.setTop (mkF m 91 #[.val (.int p1), .val (.int p2), .val (.int p3), .val (.int p4), .val (.int (2 : Int32)), .val (.int (p2 &&& (2147483647 : Int32))), .val (.int cx), .unset, .unset, .unset, .unset, .unset] []))
      have hcp : (2048 ≤ cx.toInt ∧ cx.toInt < 65536) ∧ (cx.toInt < 55296 ∨ 57343 < cx.toInt) := by rw [Int32.lt_iff_toInt_lt] at hc67; simp only [Int32.reduceToInt] at hc67; omega
      generalize ecp : cx = cp at hcp ⊢
      show own_Run p e below Φ (s₁.setTop (mkF m 91 #[.val (.int p1), .val (.int p2), .val (.int p3), .val (.int p4), .val (.int (2 : Int32)), .val (.int (p2 &&& (2147483647 : Int32))), .val (.int cp), .unset, .unset, .unset, .unset, .unset] []))
      refine own_go (fun t k => XS.iloadN X0.here hx rfl (hb hby at_91) rfl  k) ?_
      refine own_go (fun t k => XS.iconst X0.here hx rfl (hb hby at_92) k) ?_
      refine own_go (fun t k => XS.iand X0.here hx rfl (hb hby at_93) rfl k) ?_
      refine own_go (fun t k => XS.istore X0.here hx rfl (hb hby at_94) rfl (l' := #[.val (.int p1), .val (.int p2), .val (.int p3), .val (.int p4), .val (.int (2 : Int32)), .val (.int (p2 &&& (2147483647 : Int32))), .val (.int cp), .val (.int (p3 &&& (3 : Int32))), .unset, .unset, .unset, .unset]) rfl k) ?_
      refine own_go (fun t k => XS.iloadN X0.here hx rfl (hb hby at_96) rfl  k) ?_
      show own_Run p e below Φ (s₁.setTop (mkF m 97 #[.val (.int p1), .val (.int p2), .val (.int p3), .val (.int p4), .val (.int (2 : Int32)), .val (.int (p2 &&& (2147483647 : Int32))), .val (.int cp), .val (.int (p3 &&& (3 : Int32))), .unset, .unset, .unset, .unset] [(.int p4)]))
      refine own_go (fun t k => XS.i2b X0.here hx rfl (hb hby at_97) rfl k) ?_
      refine own_go (fun t k => XS.istore X0.here hx rfl (hb hby at_98) rfl (l' := #[.val (.int p1), .val (.int p2), .val (.int p3), .val (.int p4), .val (.int (2 : Int32)), .val (.int (p2 &&& (2147483647 : Int32))), .val (.int cp), .val (.int (p3 &&& (3 : Int32))), .val (.int (p4.toInt8.toInt32)), .unset, .unset, .unset]) rfl k) ?_
      show own_Run p e below Φ (s₁.setTop (mkF m 100 #[.val (.int p1), .val (.int p2), .val (.int p3), .val (.int p4), .val (.int (2 : Int32)), .val (.int (p2 &&& (2147483647 : Int32))), .val (.int cp), .val (.int (p3 &&& (3 : Int32))), .val (.int (p4.toInt8.toInt32)), .unset, .unset, .unset] []))
      have hoff := own_and3 p3
      generalize eoff : (p3 &&& (3 : Int32)) = off at hoff ⊢
      have hfb := own_b8 p4
      generalize efb : p4.toInt8.toInt32 = fb at hfb ⊢
      show own_Run p e below Φ (s₁.setTop (mkF m 100 #[.val (.int p1), .val (.int p2), .val (.int p3), .val (.int p4), .val (.int (2 : Int32)), .val (.int (p2 &&& (2147483647 : Int32))), .val (.int cp), .val (.int off), .val (.int fb), .unset, .unset, .unset] []))
      refine own_go (fun t k => XS.bipush X0.here hx rfl (hb hby at_100) k) ?_
      refine own_newP X0 hx hZ (hw _ (List.mem_of_getElem? (i := 1) rfl)) e0 (g := (mkF m 102 #[.val (.int p1), .val (.int p2), .val (.int p3), .val (.int p4), .val (.int (2 : Int32)), .val (.int (p2 &&& (2147483647 : Int32))), .val (.int cp), .val (.int off), .val (.int fb), .unset, .unset, .unset] [(.int (8 : Int32))])) rfl (hb hby at_102) rfl (by decide) 8 (by decide) (by decide) (by decide) (by decide) 8 (fun T46 h46 k46 b46 X46 e46 E46 g46 V46 => ?_)
      replace V46 : Arv Z h46 b46 k46 .byte (8 : Int32) [(.int (0 : Int32)), (.int (0 : Int32)), (.int (0 : Int32)), (.int (0 : Int32)), (.int (0 : Int32)), (.int (0 : Int32)), (.int (0 : Int32)), (.int (0 : Int32))] (.int (0 : Int32)) := V46
      refine own_go (fun t k => XS.astore X46.here hx rfl (hb hby at_104) rfl rfl (l' := #[.val (.int p1), .val (.int p2), .val (.int p3), .val (.int p4), .val (.int (2 : Int32)), .val (.int (p2 &&& (2147483647 : Int32))), .val (.int cp), .val (.int off), .val (.int fb), .val (.ref b46), .unset, .unset]) rfl k) ?_
      refine own_go (fun t k => XS.aload X46.here hx rfl (hb hby at_106) rfl rfl  k) ?_
      refine own_go (fun t k => XS.iconst X46.here hx rfl (hb hby at_108) k) ?_
      show own_Run p e below Φ (T46.setTop (mkF m 109 #[.val (.int p1), .val (.int p2), .val (.int p3), .val (.int p4), .val (.int (2 : Int32)), .val (.int (p2 &&& (2147483647 : Int32))), .val (.int cp), .val (.int off), .val (.int fb), .val (.ref b46), .unset, .unset] [(.int (0 : Int32)), (.ref b46)]))
      refine own_go (fun t k => XS.iload X46.here hx rfl (hb hby at_109) rfl  k) ?_
      refine own_bastore X46 hx hZ e46 V46 (j := (0 : Int32)) ⟨by decide, by decide⟩ 0 rfl (Nat.le_of_ble_eq_true rfl) (g := (mkF m 111 #[.val (.int p1), .val (.int p2), .val (.int p3), .val (.int p4), .val (.int (2 : Int32)), .val (.int (p2 &&& (2147483647 : Int32))), .val (.int cp), .val (.int off), .val (.int fb), .val (.ref b46), .unset, .unset] [(.int fb), (.int (0 : Int32)), (.ref b46)])) rfl rfl (hb hby at_111) (fun T48 h48 X48 e48 W48 V48 => ?_)
      replace V48 : Arv Z h48 b46 k46 .byte (8 : Int32) [(.int (fb.toInt8.toInt32)), (.int (0 : Int32)), (.int (0 : Int32)), (.int (0 : Int32)), (.int (0 : Int32)), (.int (0 : Int32)), (.int (0 : Int32)), (.int (0 : Int32))] (.int (0 : Int32)) := V48
      have N48 := Fr.snoc X48 N0 (Nat.le_trans Z0 (Nat.le_of_eq g46.symm))
      refine own_go (fun t k => XS.aload X48.here hx rfl (hb hby at_112) rfl rfl  k) ?_
      refine own_go (fun t k => XS.iconst X48.here hx rfl (hb hby at_114) k) ?_
      refine own_go (fun t k => XS.iload X48.here hx rfl (hb hby at_115) rfl  k) ?_
      show own_Run p e below Φ (T48.setTop (mkF m 117 #[.val (.int p1), .val (.int p2), .val (.int p3), .val (.int p4), .val (.int (2 : Int32)), .val (.int (p2 &&& (2147483647 : Int32))), .val (.int cp), .val (.int off), .val (.int fb), .val (.ref b46), .unset, .unset] [(.int fb), (.int (1 : Int32)), (.ref b46)]))
      refine own_bastore X48 hx hZ e48 V48 (j := (1 : Int32)) ⟨by decide, by decide⟩ 1 rfl (Nat.le_of_ble_eq_true rfl) (g := (mkF m 117 #[.val (.int p1), .val (.int p2), .val (.int p3), .val (.int p4), .val (.int (2 : Int32)), .val (.int (p2 &&& (2147483647 : Int32))), .val (.int cp), .val (.int off), .val (.int fb), .val (.ref b46), .unset, .unset] [(.int fb), (.int (1 : Int32)), (.ref b46)])) rfl rfl (hb hby at_117) (fun T49 h49 X49 e49 W49 V49 => ?_)
      replace V49 : Arv Z h49 b46 k46 .byte (8 : Int32) [(.int (fb.toInt8.toInt32)), (.int (fb.toInt8.toInt32)), (.int (0 : Int32)), (.int (0 : Int32)), (.int (0 : Int32)), (.int (0 : Int32)), (.int (0 : Int32)), (.int (0 : Int32))] (.int (0 : Int32)) := V49
      have N49 := Fr.snoc X49 N48 (Nat.le_trans Z0 (Nat.le_of_eq g46.symm))
      refine own_go (fun t k => XS.aload X49.here hx rfl (hb hby at_118) rfl rfl  k) ?_
      refine own_go (fun t k => XS.iconst X49.here hx rfl (hb hby at_120) k) ?_
      refine own_go (fun t k => XS.iload X49.here hx rfl (hb hby at_121) rfl  k) ?_
      refine own_bastore X49 hx hZ e49 V49 (j := (2 : Int32)) ⟨by decide, by decide⟩ 2 rfl (Nat.le_of_ble_eq_true rfl) (g := (mkF m 123 #[.val (.int p1), .val (.int p2), .val (.int p3), .val (.int p4), .val (.int (2 : Int32)), .val (.int (p2 &&& (2147483647 : Int32))), .val (.int cp), .val (.int off), .val (.int fb), .val (.ref b46), .unset, .unset] [(.int fb), (.int (2 : Int32)), (.ref b46)])) rfl rfl (hb hby at_123) (fun T50 h50 X50 e50 W50 V50 => ?_)
      replace V50 : Arv Z h50 b46 k46 .byte (8 : Int32) [(.int (fb.toInt8.toInt32)), (.int (fb.toInt8.toInt32)), (.int (fb.toInt8.toInt32)), (.int (0 : Int32)), (.int (0 : Int32)), (.int (0 : Int32)), (.int (0 : Int32)), (.int (0 : Int32))] (.int (0 : Int32)) := V50
      have N50 := Fr.snoc X50 N49 (Nat.le_trans Z0 (Nat.le_of_eq g46.symm))
      show own_Run p e below Φ (T50.setTop (mkF m 124 #[.val (.int p1), .val (.int p2), .val (.int p3), .val (.int p4), .val (.int (2 : Int32)), .val (.int (p2 &&& (2147483647 : Int32))), .val (.int cp), .val (.int off), .val (.int fb), .val (.ref b46), .unset, .unset] []))
      refine own_go (fun t k => XS.aload X50.here hx rfl (hb hby at_124) rfl rfl  k) ?_
      refine own_go (fun t k => XS.iconst X50.here hx rfl (hb hby at_126) k) ?_
      refine own_go (fun t k => XS.iload X50.here hx rfl (hb hby at_127) rfl  k) ?_
      refine own_bastore X50 hx hZ e50 V50 (j := (3 : Int32)) ⟨by decide, by decide⟩ 3 rfl (Nat.le_of_ble_eq_true rfl) (g := (mkF m 129 #[.val (.int p1), .val (.int p2), .val (.int p3), .val (.int p4), .val (.int (2 : Int32)), .val (.int (p2 &&& (2147483647 : Int32))), .val (.int cp), .val (.int off), .val (.int fb), .val (.ref b46), .unset, .unset] [(.int fb), (.int (3 : Int32)), (.ref b46)])) rfl rfl (hb hby at_129) (fun T51 h51 X51 e51 W51 V51 => ?_)
      replace V51 : Arv Z h51 b46 k46 .byte (8 : Int32) [(.int (fb.toInt8.toInt32)), (.int (fb.toInt8.toInt32)), (.int (fb.toInt8.toInt32)), (.int (fb.toInt8.toInt32)), (.int (0 : Int32)), (.int (0 : Int32)), (.int (0 : Int32)), (.int (0 : Int32))] (.int (0 : Int32)) := V51
      have N51 := Fr.snoc X51 N50 (Nat.le_trans Z0 (Nat.le_of_eq g46.symm))
      refine own_go (fun t k => XS.aload X51.here hx rfl (hb hby at_130) rfl rfl  k) ?_
      show own_Run p e below Φ (T51.setTop (mkF m 132 #[.val (.int p1), .val (.int p2), .val (.int p3), .val (.int p4), .val (.int (2 : Int32)), .val (.int (p2 &&& (2147483647 : Int32))), .val (.int cp), .val (.int off), .val (.int fb), .val (.ref b46), .unset, .unset] [(.ref b46)]))
      refine own_go (fun t k => XS.iconst X51.here hx rfl (hb hby at_132) k) ?_
      refine own_go (fun t k => XS.iload X51.here hx rfl (hb hby at_133) rfl  k) ?_
      refine own_bastore X51 hx hZ e51 V51 (j := (4 : Int32)) ⟨by decide, by decide⟩ 4 rfl (Nat.le_of_ble_eq_true rfl) (g := (mkF m 135 #[.val (.int p1), .val (.int p2), .val (.int p3), .val (.int p4), .val (.int (2 : Int32)), .val (.int (p2 &&& (2147483647 : Int32))), .val (.int cp), .val (.int off), .val (.int fb), .val (.ref b46), .unset, .unset] [(.int fb), (.int (4 : Int32)), (.ref b46)])) rfl rfl (hb hby at_135) (fun T52 h52 X52 e52 W52 V52 => ?_)
      replace V52 : Arv Z h52 b46 k46 .byte (8 : Int32) [(.int (fb.toInt8.toInt32)), (.int (fb.toInt8.toInt32)), (.int (fb.toInt8.toInt32)), (.int (fb.toInt8.toInt32)), (.int (fb.toInt8.toInt32)), (.int (0 : Int32)), (.int (0 : Int32)), (.int (0 : Int32))] (.int (0 : Int32)) := V52
      have N52 := Fr.snoc X52 N51 (Nat.le_trans Z0 (Nat.le_of_eq g46.symm))
      refine own_go (fun t k => XS.aload X52.here hx rfl (hb hby at_136) rfl rfl  k) ?_
      refine own_go (fun t k => XS.iconst X52.here hx rfl (hb hby at_138) k) ?_
      show own_Run p e below Φ (T52.setTop (mkF m 139 #[.val (.int p1), .val (.int p2), .val (.int p3), .val (.int p4), .val (.int (2 : Int32)), .val (.int (p2 &&& (2147483647 : Int32))), .val (.int cp), .val (.int off), .val (.int fb), .val (.ref b46), .unset, .unset] [(.int (5 : Int32)), (.ref b46)]))
      refine own_go (fun t k => XS.iload X52.here hx rfl (hb hby at_139) rfl  k) ?_
      refine own_bastore X52 hx hZ e52 V52 (j := (5 : Int32)) ⟨by decide, by decide⟩ 5 rfl (Nat.le_of_ble_eq_true rfl) (g := (mkF m 141 #[.val (.int p1), .val (.int p2), .val (.int p3), .val (.int p4), .val (.int (2 : Int32)), .val (.int (p2 &&& (2147483647 : Int32))), .val (.int cp), .val (.int off), .val (.int fb), .val (.ref b46), .unset, .unset] [(.int fb), (.int (5 : Int32)), (.ref b46)])) rfl rfl (hb hby at_141) (fun T53 h53 X53 e53 W53 V53 => ?_)
      replace V53 : Arv Z h53 b46 k46 .byte (8 : Int32) [(.int (fb.toInt8.toInt32)), (.int (fb.toInt8.toInt32)), (.int (fb.toInt8.toInt32)), (.int (fb.toInt8.toInt32)), (.int (fb.toInt8.toInt32)), (.int (fb.toInt8.toInt32)), (.int (0 : Int32)), (.int (0 : Int32))] (.int (0 : Int32)) := V53
      have N53 := Fr.snoc X53 N52 (Nat.le_trans Z0 (Nat.le_of_eq g46.symm))
      refine own_go (fun t k => XS.aload X53.here hx rfl (hb hby at_142) rfl rfl  k) ?_
      refine own_go (fun t k => XS.bipush X53.here hx rfl (hb hby at_144) k) ?_
      refine own_go (fun t k => XS.iload X53.here hx rfl (hb hby at_146) rfl  k) ?_
      show own_Run p e below Φ (T53.setTop (mkF m 148 #[.val (.int p1), .val (.int p2), .val (.int p3), .val (.int p4), .val (.int (2 : Int32)), .val (.int (p2 &&& (2147483647 : Int32))), .val (.int cp), .val (.int off), .val (.int fb), .val (.ref b46), .unset, .unset] [(.int fb), (.int (6 : Int32)), (.ref b46)]))
      refine own_bastore X53 hx hZ e53 V53 (j := (6 : Int32)) ⟨by decide, by decide⟩ 6 rfl (Nat.le_of_ble_eq_true rfl) (g := (mkF m 148 #[.val (.int p1), .val (.int p2), .val (.int p3), .val (.int p4), .val (.int (2 : Int32)), .val (.int (p2 &&& (2147483647 : Int32))), .val (.int cp), .val (.int off), .val (.int fb), .val (.ref b46), .unset, .unset] [(.int fb), (.int (6 : Int32)), (.ref b46)])) rfl rfl (hb hby at_148) (fun T54 h54 X54 e54 W54 V54 => ?_)
      replace V54 : Arv Z h54 b46 k46 .byte (8 : Int32) [(.int (fb.toInt8.toInt32)), (.int (fb.toInt8.toInt32)), (.int (fb.toInt8.toInt32)), (.int (fb.toInt8.toInt32)), (.int (fb.toInt8.toInt32)), (.int (fb.toInt8.toInt32)), (.int (fb.toInt8.toInt32)), (.int (0 : Int32))] (.int (0 : Int32)) := V54
      have N54 := Fr.snoc X54 N53 (Nat.le_trans Z0 (Nat.le_of_eq g46.symm))
      refine own_go (fun t k => XS.aload X54.here hx rfl (hb hby at_149) rfl rfl  k) ?_
      refine own_go (fun t k => XS.bipush X54.here hx rfl (hb hby at_151) k) ?_
      refine own_go (fun t k => XS.iload X54.here hx rfl (hb hby at_153) rfl  k) ?_
      refine own_bastore X54 hx hZ e54 V54 (j := (7 : Int32)) ⟨by decide, by decide⟩ 7 rfl (Nat.le_of_ble_eq_true rfl) (g := (mkF m 155 #[.val (.int p1), .val (.int p2), .val (.int p3), .val (.int p4), .val (.int (2 : Int32)), .val (.int (p2 &&& (2147483647 : Int32))), .val (.int cp), .val (.int off), .val (.int fb), .val (.ref b46), .unset, .unset] [(.int fb), (.int (7 : Int32)), (.ref b46)])) rfl rfl (hb hby at_155) (fun T55 h55 X55 e55 W55 V55 => ?_)
      replace V55 : Arv Z h55 b46 k46 .byte (8 : Int32) [(.int (fb.toInt8.toInt32)), (.int (fb.toInt8.toInt32)), (.int (fb.toInt8.toInt32)), (.int (fb.toInt8.toInt32)), (.int (fb.toInt8.toInt32)), (.int (fb.toInt8.toInt32)), (.int (fb.toInt8.toInt32)), (.int (fb.toInt8.toInt32))] (.int (0 : Int32)) := V55
      have N55 := Fr.snoc X55 N54 (Nat.le_trans Z0 (Nat.le_of_eq g46.symm))
      show own_Run p e below Φ (T55.setTop (mkF m 156 #[.val (.int p1), .val (.int p2), .val (.int p3), .val (.int p4), .val (.int (2 : Int32)), .val (.int (p2 &&& (2147483647 : Int32))), .val (.int cp), .val (.int off), .val (.int fb), .val (.ref b46), .unset, .unset] []))
      rw [hfb] at V55
      have Q56 : Arv Z h55 b46 k46 .byte (8 : Int32) (own_z fb) (.int (0 : Int32)) := V55
      refine own_go (fun t k => XS.iload X55.here hx rfl (hb hby at_156) rfl  k) ?_
      refine own_go (fun t k => XS.aload X55.here hx rfl (hb hby at_158) rfl rfl  k) ?_
      refine own_go (fun t k => XS.iload X55.here hx rfl (hb hby at_160) rfl  k) ?_
      refine own_callS X55 hx hZ (y := (⟨"com/example/templum/templum/validation/Utf8", "encode", "(I[BI)I"⟩ : MethodName)) (W := 0) (argsL := [(.int cp), (.ref b46), (.int off)]) (rest := []) hown (hw _ (List.mem_of_getElem? (i := 2) rfl)) (hw _ (List.mem_of_getElem? (i := 3) rfl)) (hw _ (List.mem_of_getElem? (i := 4) rfl)) (hw _ (List.mem_of_getElem? (i := 5) rfl)) (by decide) (own_bk (rm_enc3 l Z a0 hw cp b46 off k46 fb (0 : Int32) h55 n0 Q56 (Nat.le_trans Z0 (Nat.le_of_eq g46.symm)) hoff hcp.1.1 hcp.1.2) hZ (hw _ (List.mem_of_getElem? (i := 5) rfl)) (hw _ (List.mem_of_getElem? (i := 4) rfl)) (by decide) (by decide)) e55 (g := (mkF m 162 #[.val (.int p1), .val (.int p2), .val (.int p3), .val (.int p4), .val (.int (2 : Int32)), .val (.int (p2 &&& (2147483647 : Int32))), .val (.int cp), .val (.int off), .val (.int fb), .val (.ref b46), .unset, .unset] [(.int off), (.ref b46), (.int cp)])) rfl (by rw [hml]; rfl) (lenOf pd_0 rfl) rfl (by show 2 * 0 + _ ≤ _; exact Nat.le_of_eq rfl) (hb hby at_162) (by decide) (by decide) (fun v57 T57 h57 L57 X57 e57 q57 => ?_)
      obtain ⟨rfl, M57, K57, P57_0⟩ := q57
      have N57 := Fr.app N55 M57
      refine own_go (fun t k => XS.istore X57.here hx rfl (hb hby at_165) rfl (l' := #[.val (.int p1), .val (.int p2), .val (.int p3), .val (.int p4), .val (.int (2 : Int32)), .val (.int (p2 &&& (2147483647 : Int32))), .val (.int cp), .val (.int off), .val (.int fb), .val (.ref b46), .val (.int (3 : Int32)), .unset]) rfl k) ?_
      show own_Run p e below Φ (T57.setTop (mkF m 167 #[.val (.int p1), .val (.int p2), .val (.int p3), .val (.int p4), .val (.int (2 : Int32)), .val (.int (p2 &&& (2147483647 : Int32))), .val (.int cp), .val (.int off), .val (.int fb), .val (.ref b46), .val (.int (3 : Int32)), .unset] []))
      refine own_go (fun t k => XS.iload X57.here hx rfl (hb hby at_167) rfl  k) ?_
      refine own_go (fun t k => XS.iload X57.here hx rfl (hb hby at_169) rfl  k) ?_
      refine own_go (fun t k => XS.iconst X57.here hx rfl (hb hby at_171) k) ?_
      refine own_go (fun t k => XS.iadd X57.here hx rfl (hb hby at_172) rfl k) ?_
      show own_Run p e below Φ (T57.setTop (mkF m 173 #[.val (.int p1), .val (.int p2), .val (.int p3), .val (.int p4), .val (.int (2 : Int32)), .val (.int (p2 &&& (2147483647 : Int32))), .val (.int cp), .val (.int off), .val (.int fb), .val (.ref b46), .val (.int (3 : Int32)), .unset] [(.int ((2 : Int32) + (1 : Int32))), (.int (3 : Int32))]))
      rw [show ((2 : Int32) + (1 : Int32)) = (3 : Int32) from by decide]
      show own_Run p e below Φ (T57.setTop (mkF m 173 #[.val (.int p1), .val (.int p2), .val (.int p3), .val (.int p4), .val (.int (2 : Int32)), .val (.int (p2 &&& (2147483647 : Int32))), .val (.int cp), .val (.int off), .val (.int fb), .val (.ref b46), .val (.int (3 : Int32)), .unset] [(.int (3 : Int32)), (.int (3 : Int32))]))
      refine own_go (fun t k => XS.icmpYes X57.here hx rfl (pc0 := 173) (pc' := 178) rfl (hb hby at_173) rfl (teq (rfl : (3 : Int32) = (3 : Int32))).1 (by decide) (by decide) k) ?_
      refine own_go (fun t k => XS.aload X57.here hx rfl (hb hby at_178) rfl rfl  k) ?_
      refine own_go (fun t k => XS.iconst X57.here hx rfl (hb hby at_180) k) ?_
      refine own_go (fun t k => XS.iload X57.here hx rfl (hb hby at_181) rfl  k) ?_
      refine own_go (fun t k => XS.iload X57.here hx rfl (hb hby at_183) rfl  k) ?_
      show own_Run p e below Φ (T57.setTop (mkF m 185 #[.val (.int p1), .val (.int p2), .val (.int p3), .val (.int p4), .val (.int (2 : Int32)), .val (.int (p2 &&& (2147483647 : Int32))), .val (.int cp), .val (.int off), .val (.int fb), .val (.ref b46), .val (.int (3 : Int32)), .unset] [(.int (3 : Int32)), (.int off), (.int (0 : Int32)), (.ref b46)]))
      refine own_go (fun t k => XS.iload X57.here hx rfl (hb hby at_185) rfl  k) ?_
      refine own_callS X57 hx hZ (y := (⟨"com/example/templum/templum/validation/Utf8EncodePinLaw", "kept", "([BIIIB)Z"⟩ : MethodName)) (W := 0) (argsL := [(.ref b46), (.int (0 : Int32)), (.int off), (.int (3 : Int32)), (.int fb)]) (rest := []) hown (hw _ (List.mem_of_getElem? (i := 6) rfl)) (hw _ (List.mem_of_getElem? (i := 7) rfl)) (hw _ (List.mem_of_getElem? (i := 8) rfl)) (hw _ (List.mem_of_getElem? (i := 9) rfl)) (by decide) (own_bk (rm_kept l Z a0 hw b46 (0 : Int32) off (3 : Int32) fb k46 (own_v3 fb off (((224 : Int32) ||| (cp >>> ((12 : Int32) &&& 31))).toInt8.toInt32) (((128 : Int32) ||| ((cp >>> ((6 : Int32) &&& 31)) &&& (63 : Int32))).toInt8.toInt32) (((128 : Int32) ||| (cp &&& (63 : Int32))).toInt8.toInt32)) (0 : Int32) h57 n0 P57_0 ⟨by decide, by decide⟩ (own_k30 hoff)) hZ (hw _ (List.mem_of_getElem? (i := 9) rfl)) (hw _ (List.mem_of_getElem? (i := 8) rfl)) (by decide) (by decide)) e57 (g := (mkF m 187 #[.val (.int p1), .val (.int p2), .val (.int p3), .val (.int p4), .val (.int (2 : Int32)), .val (.int (p2 &&& (2147483647 : Int32))), .val (.int cp), .val (.int off), .val (.int fb), .val (.ref b46), .val (.int (3 : Int32)), .unset] [(.int fb), (.int (3 : Int32)), (.int off), (.int (0 : Int32)), (.ref b46)])) rfl (by rw [hml]; rfl) (lenOf pd_1 rfl) rfl (by show 2 * 0 + _ ≤ _; exact Nat.le_of_eq rfl) (hb hby at_187) (by decide) (by decide) (fun v58 T58 h58 L58 X58 e58 q58 => ?_)
      obtain ⟨rfl, M58, s58⟩ := q58
      replace e58 : T58.heap = h57 := e58.trans s58
      have N58 := Fr.app N57 M58
      refine own_go (fun t k => XS.ifNo X58.here hx rfl (hb hby at_190) rfl ((if0 _ _).trans (feq (by decide : ¬ ((1 : Int32) = (0 : Int32)))).1) k) ?_
      refine own_go (fun t k => XS.aload X58.here hx rfl (hb hby at_193) rfl rfl  k) ?_
      refine own_go (fun t k => XS.iconst X58.here hx rfl (hb hby at_195) k) ?_
      show own_Run p e below Φ (T58.setTop (mkF m 196 #[.val (.int p1), .val (.int p2), .val (.int p3), .val (.int p4), .val (.int (2 : Int32)), .val (.int (p2 &&& (2147483647 : Int32))), .val (.int cp), .val (.int off), .val (.int fb), .val (.ref b46), .val (.int (3 : Int32)), .unset] [(.int (1 : Int32)), (.ref b46)]))
      refine own_go (fun t k => XS.iload X58.here hx rfl (hb hby at_196) rfl  k) ?_
      refine own_go (fun t k => XS.iload X58.here hx rfl (hb hby at_198) rfl  k) ?_
      refine own_go (fun t k => XS.iload X58.here hx rfl (hb hby at_200) rfl  k) ?_
      refine own_callS X58 hx hZ (y := (⟨"com/example/templum/templum/validation/Utf8EncodePinLaw", "kept", "([BIIIB)Z"⟩ : MethodName)) (W := 0) (argsL := [(.ref b46), (.int (1 : Int32)), (.int off), (.int (3 : Int32)), (.int fb)]) (rest := []) hown (hw _ (List.mem_of_getElem? (i := 6) rfl)) (hw _ (List.mem_of_getElem? (i := 7) rfl)) (hw _ (List.mem_of_getElem? (i := 8) rfl)) (hw _ (List.mem_of_getElem? (i := 9) rfl)) (by decide) (own_bk (rm_kept l Z a0 hw b46 (1 : Int32) off (3 : Int32) fb k46 (own_v3 fb off (((224 : Int32) ||| (cp >>> ((12 : Int32) &&& 31))).toInt8.toInt32) (((128 : Int32) ||| ((cp >>> ((6 : Int32) &&& 31)) &&& (63 : Int32))).toInt8.toInt32) (((128 : Int32) ||| (cp &&& (63 : Int32))).toInt8.toInt32)) (0 : Int32) h57 n0 P57_0 ⟨by decide, by decide⟩ (own_k31 hoff)) hZ (hw _ (List.mem_of_getElem? (i := 9) rfl)) (hw _ (List.mem_of_getElem? (i := 8) rfl)) (by decide) (by decide)) e58 (g := (mkF m 202 #[.val (.int p1), .val (.int p2), .val (.int p3), .val (.int p4), .val (.int (2 : Int32)), .val (.int (p2 &&& (2147483647 : Int32))), .val (.int cp), .val (.int off), .val (.int fb), .val (.ref b46), .val (.int (3 : Int32)), .unset] [(.int fb), (.int (3 : Int32)), (.int off), (.int (1 : Int32)), (.ref b46)])) rfl (by rw [hml]; rfl) (lenOf pd_1 rfl) rfl (by show 2 * 0 + _ ≤ _; exact Nat.le_of_eq rfl) (hb hby at_202) (by decide) (by decide) (fun v59 T59 h59 L59 X59 e59 q59 => ?_)
      obtain ⟨rfl, M59, s59⟩ := q59
      replace e59 : T59.heap = h57 := e59.trans s59
      have N59 := Fr.app N58 M59
      refine own_go (fun t k => XS.ifNo X59.here hx rfl (hb hby at_205) rfl ((if0 _ _).trans (feq (by decide : ¬ ((1 : Int32) = (0 : Int32)))).1) k) ?_
      show own_Run p e below Φ (T59.setTop (mkF m 208 #[.val (.int p1), .val (.int p2), .val (.int p3), .val (.int p4), .val (.int (2 : Int32)), .val (.int (p2 &&& (2147483647 : Int32))), .val (.int cp), .val (.int off), .val (.int fb), .val (.ref b46), .val (.int (3 : Int32)), .unset] []))
      refine own_go (fun t k => XS.aload X59.here hx rfl (hb hby at_208) rfl rfl  k) ?_
      refine own_go (fun t k => XS.iconst X59.here hx rfl (hb hby at_210) k) ?_
      refine own_go (fun t k => XS.iload X59.here hx rfl (hb hby at_211) rfl  k) ?_
      refine own_go (fun t k => XS.iload X59.here hx rfl (hb hby at_213) rfl  k) ?_
      refine own_go (fun t k => XS.iload X59.here hx rfl (hb hby at_215) rfl  k) ?_
      show own_Run p e below Φ (T59.setTop (mkF m 217 #[.val (.int p1), .val (.int p2), .val (.int p3), .val (.int p4), .val (.int (2 : Int32)), .val (.int (p2 &&& (2147483647 : Int32))), .val (.int cp), .val (.int off), .val (.int fb), .val (.ref b46), .val (.int (3 : Int32)), .unset] [(.int fb), (.int (3 : Int32)), (.int off), (.int (2 : Int32)), (.ref b46)]))
      refine own_callS X59 hx hZ (y := (⟨"com/example/templum/templum/validation/Utf8EncodePinLaw", "kept", "([BIIIB)Z"⟩ : MethodName)) (W := 0) (argsL := [(.ref b46), (.int (2 : Int32)), (.int off), (.int (3 : Int32)), (.int fb)]) (rest := []) hown (hw _ (List.mem_of_getElem? (i := 6) rfl)) (hw _ (List.mem_of_getElem? (i := 7) rfl)) (hw _ (List.mem_of_getElem? (i := 8) rfl)) (hw _ (List.mem_of_getElem? (i := 9) rfl)) (by decide) (own_bk (rm_kept l Z a0 hw b46 (2 : Int32) off (3 : Int32) fb k46 (own_v3 fb off (((224 : Int32) ||| (cp >>> ((12 : Int32) &&& 31))).toInt8.toInt32) (((128 : Int32) ||| ((cp >>> ((6 : Int32) &&& 31)) &&& (63 : Int32))).toInt8.toInt32) (((128 : Int32) ||| (cp &&& (63 : Int32))).toInt8.toInt32)) (0 : Int32) h57 n0 P57_0 ⟨by decide, by decide⟩ (own_k32 hoff)) hZ (hw _ (List.mem_of_getElem? (i := 9) rfl)) (hw _ (List.mem_of_getElem? (i := 8) rfl)) (by decide) (by decide)) e59 (g := (mkF m 217 #[.val (.int p1), .val (.int p2), .val (.int p3), .val (.int p4), .val (.int (2 : Int32)), .val (.int (p2 &&& (2147483647 : Int32))), .val (.int cp), .val (.int off), .val (.int fb), .val (.ref b46), .val (.int (3 : Int32)), .unset] [(.int fb), (.int (3 : Int32)), (.int off), (.int (2 : Int32)), (.ref b46)])) rfl (by rw [hml]; rfl) (lenOf pd_1 rfl) rfl (by show 2 * 0 + _ ≤ _; exact Nat.le_of_eq rfl) (hb hby at_217) (by decide) (by decide) (fun v60 T60 h60 L60 X60 e60 q60 => ?_)
      obtain ⟨rfl, M60, s60⟩ := q60
      replace e60 : T60.heap = h57 := e60.trans s60
      have N60 := Fr.app N59 M60
      refine own_go (fun t k => XS.ifNo X60.here hx rfl (hb hby at_220) rfl ((if0 _ _).trans (feq (by decide : ¬ ((1 : Int32) = (0 : Int32)))).1) k) ?_
      refine own_go (fun t k => XS.aload X60.here hx rfl (hb hby at_223) rfl rfl  k) ?_
      refine own_go (fun t k => XS.iconst X60.here hx rfl (hb hby at_225) k) ?_
      refine own_go (fun t k => XS.iload X60.here hx rfl (hb hby at_226) rfl  k) ?_
      show own_Run p e below Φ (T60.setTop (mkF m 228 #[.val (.int p1), .val (.int p2), .val (.int p3), .val (.int p4), .val (.int (2 : Int32)), .val (.int (p2 &&& (2147483647 : Int32))), .val (.int cp), .val (.int off), .val (.int fb), .val (.ref b46), .val (.int (3 : Int32)), .unset] [(.int off), (.int (3 : Int32)), (.ref b46)]))
      refine own_go (fun t k => XS.iload X60.here hx rfl (hb hby at_228) rfl  k) ?_
      refine own_go (fun t k => XS.iload X60.here hx rfl (hb hby at_230) rfl  k) ?_
      refine own_callS X60 hx hZ (y := (⟨"com/example/templum/templum/validation/Utf8EncodePinLaw", "kept", "([BIIIB)Z"⟩ : MethodName)) (W := 0) (argsL := [(.ref b46), (.int (3 : Int32)), (.int off), (.int (3 : Int32)), (.int fb)]) (rest := []) hown (hw _ (List.mem_of_getElem? (i := 6) rfl)) (hw _ (List.mem_of_getElem? (i := 7) rfl)) (hw _ (List.mem_of_getElem? (i := 8) rfl)) (hw _ (List.mem_of_getElem? (i := 9) rfl)) (by decide) (own_bk (rm_kept l Z a0 hw b46 (3 : Int32) off (3 : Int32) fb k46 (own_v3 fb off (((224 : Int32) ||| (cp >>> ((12 : Int32) &&& 31))).toInt8.toInt32) (((128 : Int32) ||| ((cp >>> ((6 : Int32) &&& 31)) &&& (63 : Int32))).toInt8.toInt32) (((128 : Int32) ||| (cp &&& (63 : Int32))).toInt8.toInt32)) (0 : Int32) h57 n0 P57_0 ⟨by decide, by decide⟩ (own_k33 hoff)) hZ (hw _ (List.mem_of_getElem? (i := 9) rfl)) (hw _ (List.mem_of_getElem? (i := 8) rfl)) (by decide) (by decide)) e60 (g := (mkF m 232 #[.val (.int p1), .val (.int p2), .val (.int p3), .val (.int p4), .val (.int (2 : Int32)), .val (.int (p2 &&& (2147483647 : Int32))), .val (.int cp), .val (.int off), .val (.int fb), .val (.ref b46), .val (.int (3 : Int32)), .unset] [(.int fb), (.int (3 : Int32)), (.int off), (.int (3 : Int32)), (.ref b46)])) rfl (by rw [hml]; rfl) (lenOf pd_1 rfl) rfl (by show 2 * 0 + _ ≤ _; exact Nat.le_of_eq rfl) (hb hby at_232) (by decide) (by decide) (fun v61 T61 h61 L61 X61 e61 q61 => ?_)
      obtain ⟨rfl, M61, s61⟩ := q61
      replace e61 : T61.heap = h57 := e61.trans s61
      have N61 := Fr.app N60 M61
      refine own_go (fun t k => XS.ifNo X61.here hx rfl (hb hby at_235) rfl ((if0 _ _).trans (feq (by decide : ¬ ((1 : Int32) = (0 : Int32)))).1) k) ?_
      refine own_go (fun t k => XS.aload X61.here hx rfl (hb hby at_238) rfl rfl  k) ?_
      show own_Run p e below Φ (T61.setTop (mkF m 240 #[.val (.int p1), .val (.int p2), .val (.int p3), .val (.int p4), .val (.int (2 : Int32)), .val (.int (p2 &&& (2147483647 : Int32))), .val (.int cp), .val (.int off), .val (.int fb), .val (.ref b46), .val (.int (3 : Int32)), .unset] [(.ref b46)]))
      refine own_go (fun t k => XS.iconst X61.here hx rfl (hb hby at_240) k) ?_
      refine own_go (fun t k => XS.iload X61.here hx rfl (hb hby at_241) rfl  k) ?_
      refine own_go (fun t k => XS.iload X61.here hx rfl (hb hby at_243) rfl  k) ?_
      refine own_go (fun t k => XS.iload X61.here hx rfl (hb hby at_245) rfl  k) ?_
      refine own_callS X61 hx hZ (y := (⟨"com/example/templum/templum/validation/Utf8EncodePinLaw", "kept", "([BIIIB)Z"⟩ : MethodName)) (W := 0) (argsL := [(.ref b46), (.int (4 : Int32)), (.int off), (.int (3 : Int32)), (.int fb)]) (rest := []) hown (hw _ (List.mem_of_getElem? (i := 6) rfl)) (hw _ (List.mem_of_getElem? (i := 7) rfl)) (hw _ (List.mem_of_getElem? (i := 8) rfl)) (hw _ (List.mem_of_getElem? (i := 9) rfl)) (by decide) (own_bk (rm_kept l Z a0 hw b46 (4 : Int32) off (3 : Int32) fb k46 (own_v3 fb off (((224 : Int32) ||| (cp >>> ((12 : Int32) &&& 31))).toInt8.toInt32) (((128 : Int32) ||| ((cp >>> ((6 : Int32) &&& 31)) &&& (63 : Int32))).toInt8.toInt32) (((128 : Int32) ||| (cp &&& (63 : Int32))).toInt8.toInt32)) (0 : Int32) h57 n0 P57_0 ⟨by decide, by decide⟩ (own_k34 hoff)) hZ (hw _ (List.mem_of_getElem? (i := 9) rfl)) (hw _ (List.mem_of_getElem? (i := 8) rfl)) (by decide) (by decide)) e61 (g := (mkF m 247 #[.val (.int p1), .val (.int p2), .val (.int p3), .val (.int p4), .val (.int (2 : Int32)), .val (.int (p2 &&& (2147483647 : Int32))), .val (.int cp), .val (.int off), .val (.int fb), .val (.ref b46), .val (.int (3 : Int32)), .unset] [(.int fb), (.int (3 : Int32)), (.int off), (.int (4 : Int32)), (.ref b46)])) rfl (by rw [hml]; rfl) (lenOf pd_1 rfl) rfl (by show 2 * 0 + _ ≤ _; exact Nat.le_of_eq rfl) (hb hby at_247) (by decide) (by decide) (fun v62 T62 h62 L62 X62 e62 q62 => ?_)
      obtain ⟨rfl, M62, s62⟩ := q62
      replace e62 : T62.heap = h57 := e62.trans s62
      have N62 := Fr.app N61 M62
      show own_Run p e below Φ (T62.setTop (mkF m 250 #[.val (.int p1), .val (.int p2), .val (.int p3), .val (.int p4), .val (.int (2 : Int32)), .val (.int (p2 &&& (2147483647 : Int32))), .val (.int cp), .val (.int off), .val (.int fb), .val (.ref b46), .val (.int (3 : Int32)), .unset] [(.int (1 : Int32))]))
      refine own_go (fun t k => XS.ifNo X62.here hx rfl (hb hby at_250) rfl ((if0 _ _).trans (feq (by decide : ¬ ((1 : Int32) = (0 : Int32)))).1) k) ?_
      refine own_go (fun t k => XS.aload X62.here hx rfl (hb hby at_253) rfl rfl  k) ?_
      refine own_go (fun t k => XS.iconst X62.here hx rfl (hb hby at_255) k) ?_
      refine own_go (fun t k => XS.iload X62.here hx rfl (hb hby at_256) rfl  k) ?_
      refine own_go (fun t k => XS.iload X62.here hx rfl (hb hby at_258) rfl  k) ?_
      show own_Run p e below Φ (T62.setTop (mkF m 260 #[.val (.int p1), .val (.int p2), .val (.int p3), .val (.int p4), .val (.int (2 : Int32)), .val (.int (p2 &&& (2147483647 : Int32))), .val (.int cp), .val (.int off), .val (.int fb), .val (.ref b46), .val (.int (3 : Int32)), .unset] [(.int (3 : Int32)), (.int off), (.int (5 : Int32)), (.ref b46)]))
      refine own_go (fun t k => XS.iload X62.here hx rfl (hb hby at_260) rfl  k) ?_
      refine own_callS X62 hx hZ (y := (⟨"com/example/templum/templum/validation/Utf8EncodePinLaw", "kept", "([BIIIB)Z"⟩ : MethodName)) (W := 0) (argsL := [(.ref b46), (.int (5 : Int32)), (.int off), (.int (3 : Int32)), (.int fb)]) (rest := []) hown (hw _ (List.mem_of_getElem? (i := 6) rfl)) (hw _ (List.mem_of_getElem? (i := 7) rfl)) (hw _ (List.mem_of_getElem? (i := 8) rfl)) (hw _ (List.mem_of_getElem? (i := 9) rfl)) (by decide) (own_bk (rm_kept l Z a0 hw b46 (5 : Int32) off (3 : Int32) fb k46 (own_v3 fb off (((224 : Int32) ||| (cp >>> ((12 : Int32) &&& 31))).toInt8.toInt32) (((128 : Int32) ||| ((cp >>> ((6 : Int32) &&& 31)) &&& (63 : Int32))).toInt8.toInt32) (((128 : Int32) ||| (cp &&& (63 : Int32))).toInt8.toInt32)) (0 : Int32) h57 n0 P57_0 ⟨by decide, by decide⟩ (own_k35 hoff)) hZ (hw _ (List.mem_of_getElem? (i := 9) rfl)) (hw _ (List.mem_of_getElem? (i := 8) rfl)) (by decide) (by decide)) e62 (g := (mkF m 262 #[.val (.int p1), .val (.int p2), .val (.int p3), .val (.int p4), .val (.int (2 : Int32)), .val (.int (p2 &&& (2147483647 : Int32))), .val (.int cp), .val (.int off), .val (.int fb), .val (.ref b46), .val (.int (3 : Int32)), .unset] [(.int fb), (.int (3 : Int32)), (.int off), (.int (5 : Int32)), (.ref b46)])) rfl (by rw [hml]; rfl) (lenOf pd_1 rfl) rfl (by show 2 * 0 + _ ≤ _; exact Nat.le_of_eq rfl) (hb hby at_262) (by decide) (by decide) (fun v63 T63 h63 L63 X63 e63 q63 => ?_)
      obtain ⟨rfl, M63, s63⟩ := q63
      replace e63 : T63.heap = h57 := e63.trans s63
      have N63 := Fr.app N62 M63
      refine own_go (fun t k => XS.ifNo X63.here hx rfl (hb hby at_265) rfl ((if0 _ _).trans (feq (by decide : ¬ ((1 : Int32) = (0 : Int32)))).1) k) ?_
      refine own_go (fun t k => XS.aload X63.here hx rfl (hb hby at_268) rfl rfl  k) ?_
      refine own_go (fun t k => XS.bipush X63.here hx rfl (hb hby at_270) k) ?_
      show own_Run p e below Φ (T63.setTop (mkF m 272 #[.val (.int p1), .val (.int p2), .val (.int p3), .val (.int p4), .val (.int (2 : Int32)), .val (.int (p2 &&& (2147483647 : Int32))), .val (.int cp), .val (.int off), .val (.int fb), .val (.ref b46), .val (.int (3 : Int32)), .unset] [(.int (6 : Int32)), (.ref b46)]))
      refine own_go (fun t k => XS.iload X63.here hx rfl (hb hby at_272) rfl  k) ?_
      refine own_go (fun t k => XS.iload X63.here hx rfl (hb hby at_274) rfl  k) ?_
      refine own_go (fun t k => XS.iload X63.here hx rfl (hb hby at_276) rfl  k) ?_
      refine own_callS X63 hx hZ (y := (⟨"com/example/templum/templum/validation/Utf8EncodePinLaw", "kept", "([BIIIB)Z"⟩ : MethodName)) (W := 0) (argsL := [(.ref b46), (.int (6 : Int32)), (.int off), (.int (3 : Int32)), (.int fb)]) (rest := []) hown (hw _ (List.mem_of_getElem? (i := 6) rfl)) (hw _ (List.mem_of_getElem? (i := 7) rfl)) (hw _ (List.mem_of_getElem? (i := 8) rfl)) (hw _ (List.mem_of_getElem? (i := 9) rfl)) (by decide) (own_bk (rm_kept l Z a0 hw b46 (6 : Int32) off (3 : Int32) fb k46 (own_v3 fb off (((224 : Int32) ||| (cp >>> ((12 : Int32) &&& 31))).toInt8.toInt32) (((128 : Int32) ||| ((cp >>> ((6 : Int32) &&& 31)) &&& (63 : Int32))).toInt8.toInt32) (((128 : Int32) ||| (cp &&& (63 : Int32))).toInt8.toInt32)) (0 : Int32) h57 n0 P57_0 ⟨by decide, by decide⟩ (own_k36 hoff)) hZ (hw _ (List.mem_of_getElem? (i := 9) rfl)) (hw _ (List.mem_of_getElem? (i := 8) rfl)) (by decide) (by decide)) e63 (g := (mkF m 278 #[.val (.int p1), .val (.int p2), .val (.int p3), .val (.int p4), .val (.int (2 : Int32)), .val (.int (p2 &&& (2147483647 : Int32))), .val (.int cp), .val (.int off), .val (.int fb), .val (.ref b46), .val (.int (3 : Int32)), .unset] [(.int fb), (.int (3 : Int32)), (.int off), (.int (6 : Int32)), (.ref b46)])) rfl (by rw [hml]; rfl) (lenOf pd_1 rfl) rfl (by show 2 * 0 + _ ≤ _; exact Nat.le_of_eq rfl) (hb hby at_278) (by decide) (by decide) (fun v64 T64 h64 L64 X64 e64 q64 => ?_)
      obtain ⟨rfl, M64, s64⟩ := q64
      replace e64 : T64.heap = h57 := e64.trans s64
      have N64 := Fr.app N63 M64
      refine own_go (fun t k => XS.ifNo X64.here hx rfl (hb hby at_281) rfl ((if0 _ _).trans (feq (by decide : ¬ ((1 : Int32) = (0 : Int32)))).1) k) ?_
      show own_Run p e below Φ (T64.setTop (mkF m 284 #[.val (.int p1), .val (.int p2), .val (.int p3), .val (.int p4), .val (.int (2 : Int32)), .val (.int (p2 &&& (2147483647 : Int32))), .val (.int cp), .val (.int off), .val (.int fb), .val (.ref b46), .val (.int (3 : Int32)), .unset] []))
      refine own_go (fun t k => XS.aload X64.here hx rfl (hb hby at_284) rfl rfl  k) ?_
      refine own_go (fun t k => XS.bipush X64.here hx rfl (hb hby at_286) k) ?_
      refine own_go (fun t k => XS.iload X64.here hx rfl (hb hby at_288) rfl  k) ?_
      refine own_go (fun t k => XS.iload X64.here hx rfl (hb hby at_290) rfl  k) ?_
      refine own_go (fun t k => XS.iload X64.here hx rfl (hb hby at_292) rfl  k) ?_
      show own_Run p e below Φ (T64.setTop (mkF m 294 #[.val (.int p1), .val (.int p2), .val (.int p3), .val (.int p4), .val (.int (2 : Int32)), .val (.int (p2 &&& (2147483647 : Int32))), .val (.int cp), .val (.int off), .val (.int fb), .val (.ref b46), .val (.int (3 : Int32)), .unset] [(.int fb), (.int (3 : Int32)), (.int off), (.int (7 : Int32)), (.ref b46)]))
      refine own_callS X64 hx hZ (y := (⟨"com/example/templum/templum/validation/Utf8EncodePinLaw", "kept", "([BIIIB)Z"⟩ : MethodName)) (W := 0) (argsL := [(.ref b46), (.int (7 : Int32)), (.int off), (.int (3 : Int32)), (.int fb)]) (rest := []) hown (hw _ (List.mem_of_getElem? (i := 6) rfl)) (hw _ (List.mem_of_getElem? (i := 7) rfl)) (hw _ (List.mem_of_getElem? (i := 8) rfl)) (hw _ (List.mem_of_getElem? (i := 9) rfl)) (by decide) (own_bk (rm_kept l Z a0 hw b46 (7 : Int32) off (3 : Int32) fb k46 (own_v3 fb off (((224 : Int32) ||| (cp >>> ((12 : Int32) &&& 31))).toInt8.toInt32) (((128 : Int32) ||| ((cp >>> ((6 : Int32) &&& 31)) &&& (63 : Int32))).toInt8.toInt32) (((128 : Int32) ||| (cp &&& (63 : Int32))).toInt8.toInt32)) (0 : Int32) h57 n0 P57_0 ⟨by decide, by decide⟩ (own_k37 hoff)) hZ (hw _ (List.mem_of_getElem? (i := 9) rfl)) (hw _ (List.mem_of_getElem? (i := 8) rfl)) (by decide) (by decide)) e64 (g := (mkF m 294 #[.val (.int p1), .val (.int p2), .val (.int p3), .val (.int p4), .val (.int (2 : Int32)), .val (.int (p2 &&& (2147483647 : Int32))), .val (.int cp), .val (.int off), .val (.int fb), .val (.ref b46), .val (.int (3 : Int32)), .unset] [(.int fb), (.int (3 : Int32)), (.int off), (.int (7 : Int32)), (.ref b46)])) rfl (by rw [hml]; rfl) (lenOf pd_1 rfl) rfl (by show 2 * 0 + _ ≤ _; exact Nat.le_of_eq rfl) (hb hby at_294) (by decide) (by decide) (fun v65 T65 h65 L65 X65 e65 q65 => ?_)
      obtain ⟨rfl, M65, s65⟩ := q65
      replace e65 : T65.heap = h57 := e65.trans s65
      have N65 := Fr.app N64 M65
      refine own_go (fun t k => XS.ifNo X65.here hx rfl (hb hby at_297) rfl ((if0 _ _).trans (feq (by decide : ¬ ((1 : Int32) = (0 : Int32)))).1) k) ?_
      refine own_go (fun t k => XS.iconst X65.here hx rfl (hb hby at_300) k) ?_
      refine own_go (fun t k => XS.goto X65.here hx rfl (pc0 := 301) (pc' := 305) rfl (hb hby at_301) (by decide) (by decide) k) ?_
      refine own_go (fun t k => XS.istore X65.here hx rfl (hb hby at_305) rfl (l' := #[.val (.int p1), .val (.int p2), .val (.int p3), .val (.int p4), .val (.int (2 : Int32)), .val (.int (p2 &&& (2147483647 : Int32))), .val (.int cp), .val (.int off), .val (.int fb), .val (.ref b46), .val (.int (3 : Int32)), .val (.int (1 : Int32))]) rfl k) ?_
      show own_Run p e below Φ (T65.setTop (mkF m 307 #[.val (.int p1), .val (.int p2), .val (.int p3), .val (.int p4), .val (.int (2 : Int32)), .val (.int (p2 &&& (2147483647 : Int32))), .val (.int cp), .val (.int off), .val (.int fb), .val (.ref b46), .val (.int (3 : Int32)), .val (.int (1 : Int32))] []))
      refine own_go (fun t k => XS.iload X65.here hx rfl (hb hby at_307) rfl  k) ?_
      refine own_go (fun t k => XS.ifYes X65.here hx rfl (pc0 := 309) (pc' := 314) rfl (hb hby at_309) rfl ((if0 _ _).trans (feq (by decide : ¬ ((1 : Int32) = (0 : Int32)))).2) (by decide) (by decide) k) ?_
      refine own_go (fun t k => XS.aload X65.here hx rfl (hb hby at_314) rfl rfl  k) ?_
      refine own_go (fun t k => XS.iload X65.here hx rfl (hb hby at_316) rfl  k) ?_
      refine own_baload X65 hx hZ e65 P57_0 (j := off) (v := (.int (((224 : Int32) ||| (cp >>> ((12 : Int32) &&& 31))).toInt8.toInt32))) (own_o0 hoff) (own_g30 hoff) (g := (mkF m 318 #[.val (.int p1), .val (.int p2), .val (.int p3), .val (.int p4), .val (.int (2 : Int32)), .val (.int (p2 &&& (2147483647 : Int32))), .val (.int cp), .val (.int off), .val (.int fb), .val (.ref b46), .val (.int (3 : Int32)), .val (.int (1 : Int32))] [(.int off), (.ref b46)])) rfl rfl (hb hby at_318) ?_
      show own_Run p e below Φ (T65.setTop (mkF m 319 #[.val (.int p1), .val (.int p2), .val (.int p3), .val (.int p4), .val (.int (2 : Int32)), .val (.int (p2 &&& (2147483647 : Int32))), .val (.int cp), .val (.int off), .val (.int fb), .val (.ref b46), .val (.int (3 : Int32)), .val (.int (1 : Int32))] [(.int (((224 : Int32) ||| (cp >>> ((12 : Int32) &&& 31))).toInt8.toInt32))]))
      refine own_callS X65 hx hZ (y := (⟨"com/example/templum/templum/validation/Utf8", "length", "(B)I"⟩ : MethodName)) (W := 0) (argsL := [(.int (((224 : Int32) ||| (cp >>> ((12 : Int32) &&& 31))).toInt8.toInt32))]) (rest := []) hown (hw _ (List.mem_of_getElem? (i := 10) rfl)) (hw _ (List.mem_of_getElem? (i := 11) rfl)) (hw _ (List.mem_of_getElem? (i := 4) rfl)) (hw _ (List.mem_of_getElem? (i := 12) rfl)) (by decide) (own_bk (rm_len l Z a0 hw (((224 : Int32) ||| (cp >>> ((12 : Int32) &&& 31))).toInt8.toInt32) h57 n0 ) hZ (hw _ (List.mem_of_getElem? (i := 12) rfl)) (hw _ (List.mem_of_getElem? (i := 4) rfl)) (by decide) (by decide)) e65 (g := (mkF m 319 #[.val (.int p1), .val (.int p2), .val (.int p3), .val (.int p4), .val (.int (2 : Int32)), .val (.int (p2 &&& (2147483647 : Int32))), .val (.int cp), .val (.int off), .val (.int fb), .val (.ref b46), .val (.int (3 : Int32)), .val (.int (1 : Int32))] [(.int (((224 : Int32) ||| (cp >>> ((12 : Int32) &&& 31))).toInt8.toInt32))])) rfl (by rw [hml]; rfl) (lenOf pd_2 rfl) rfl (by show 2 * 0 + _ ≤ _; exact Nat.le_of_eq rfl) (hb hby at_319) (by decide) (by decide) (fun v66 T66 h66 L66 X66 e66 q66 => ?_)
      obtain ⟨rfl, M66, s66⟩ := q66
      replace e66 : T66.heap = h57 := e66.trans s66
      have N66 := Fr.app N65 M66
      refine own_go (fun t k => XS.iload X66.here hx rfl (hb hby at_322) rfl  k) ?_
      have hc324 : (own_len8 (((224 : Int32) ||| (cp >>> ((12 : Int32) &&& 31))).toInt8.toInt32)) = (3 : Int32) := (own_m3 hcp.1.1 hcp.1.2)
      refine own_go (fun t k => XS.icmpYes X66.here hx rfl (pc0 := 324) (pc' := 329) rfl (hb hby at_324) rfl (teq hc324).1 (by decide) (by decide) k) ?_
      refine own_go (fun t k => XS.iload X66.here hx rfl (hb hby at_329) rfl  k) ?_
      refine own_go (fun t k => XS.iconst X66.here hx rfl (hb hby at_331) k) ?_
      show own_Run p e below Φ (T66.setTop (mkF m 332 #[.val (.int p1), .val (.int p2), .val (.int p3), .val (.int p4), .val (.int (2 : Int32)), .val (.int (p2 &&& (2147483647 : Int32))), .val (.int cp), .val (.int off), .val (.int fb), .val (.ref b46), .val (.int (3 : Int32)), .val (.int (1 : Int32))] [(.int (1 : Int32)), (.int (3 : Int32))]))
      refine own_go (fun t k => XS.icmpYes X66.here hx rfl (pc0 := 332) (pc' := 352) rfl (hb hby at_332) rfl (feq (by decide : ¬ ((3 : Int32) = (1 : Int32)))).2 (by decide) (by decide) k) ?_
      refine own_go (fun t k => XS.aload X66.here hx rfl (hb hby at_352) rfl rfl  k) ?_
      refine own_go (fun t k => XS.iload X66.here hx rfl (hb hby at_354) rfl  k) ?_
      refine own_go (fun t k => XS.iload X66.here hx rfl (hb hby at_356) rfl  k) ?_
      have F67 : Old Z n0 h57 := ((((((((((O0.ext E46).wr W48 (Nat.le_trans Z0 (Nat.le_of_eq g46.symm))).wr W49 (Nat.le_trans Z0 (Nat.le_of_eq g46.symm))).wr W50 (Nat.le_trans Z0 (Nat.le_of_eq g46.symm))).wr W51 (Nat.le_trans Z0 (Nat.le_of_eq g46.symm))).wr W52 (Nat.le_trans Z0 (Nat.le_of_eq g46.symm))).wr W53 (Nat.le_trans Z0 (Nat.le_of_eq g46.symm))).wr W54 (Nat.le_trans Z0 (Nat.le_of_eq g46.symm))).wr W55 (Nat.le_trans Z0 (Nat.le_of_eq g46.symm))).keep K57 (allS (Nat.le_trans Z0 (Nat.le_of_eq g46.symm)) all0))
      have F68 : Arv Z h57 w1 kw .int (5 : Int32) [(.int (0 : Int32)), (.int (0 : Int32)), (.int (128 : Int32)), (.int (2048 : Int32)), (.int (65536 : Int32))] (.int (0 : Int32)) := V0.ext F67.2
      refine own_callS X66 hx hZ (y := (⟨"com/example/templum/templum/validation/Utf8", "decode", "([BII)I"⟩ : MethodName)) (W := 0) (argsL := [(.ref b46), (.int off), (.int (3 : Int32))]) (rest := []) hown (hw _ (List.mem_of_getElem? (i := 16) rfl)) (hw _ (List.mem_of_getElem? (i := 17) rfl)) (hw _ (List.mem_of_getElem? (i := 4) rfl)) (hw _ (List.mem_of_getElem? (i := 18) rfl)) (by decide) (own_bk (rm_dec3 l Z a0 hw b46 off k46 (own_v3 fb off (((224 : Int32) ||| (cp >>> ((12 : Int32) &&& 31))).toInt8.toInt32) (((128 : Int32) ||| ((cp >>> ((6 : Int32) &&& 31)) &&& (63 : Int32))).toInt8.toInt32) (((128 : Int32) ||| (cp &&& (63 : Int32))).toInt8.toInt32)) (0 : Int32) (((224 : Int32) ||| (cp >>> ((12 : Int32) &&& 31))).toInt8.toInt32) (((128 : Int32) ||| ((cp >>> ((6 : Int32) &&& 31)) &&& (63 : Int32))).toInt8.toInt32) (((128 : Int32) ||| (cp &&& (63 : Int32))).toInt8.toInt32) w1 kw h57 n0 P57_0 F67 S0 F68 (own_o0 hoff) (own_g30 hoff) (own_o1 hoff) (own_g31 hoff) (own_o2 hoff) (own_g32 hoff)) hZ (hw _ (List.mem_of_getElem? (i := 18) rfl)) (hw _ (List.mem_of_getElem? (i := 4) rfl)) (by decide) (by decide)) e66 (g := (mkF m 358 #[.val (.int p1), .val (.int p2), .val (.int p3), .val (.int p4), .val (.int (2 : Int32)), .val (.int (p2 &&& (2147483647 : Int32))), .val (.int cp), .val (.int off), .val (.int fb), .val (.ref b46), .val (.int (3 : Int32)), .val (.int (1 : Int32))] [(.int (3 : Int32)), (.int off), (.ref b46)])) rfl (by rw [hml]; rfl) (lenOf pd_3 rfl) rfl (by show 2 * 0 + _ ≤ _; exact Nat.le_of_eq rfl) (hb hby at_358) (by decide) (by decide) (fun v69 T69 h69 L69 X69 e69 q69 => ?_)
      obtain ⟨rfl, M69, s69⟩ := q69
      replace e69 : T69.heap = h57 := e69.trans s69
      have N69 := Fr.app N66 M69
      show own_Run p e below Φ (T69.setTop (mkF m 361 #[.val (.int p1), .val (.int p2), .val (.int p3), .val (.int p4), .val (.int (2 : Int32)), .val (.int (p2 &&& (2147483647 : Int32))), .val (.int cp), .val (.int off), .val (.int fb), .val (.ref b46), .val (.int (3 : Int32)), .val (.int (1 : Int32))] [(.int (own_dec3 (((224 : Int32) ||| (cp >>> ((12 : Int32) &&& 31))).toInt8.toInt32) (((128 : Int32) ||| ((cp >>> ((6 : Int32) &&& 31)) &&& (63 : Int32))).toInt8.toInt32) (((128 : Int32) ||| (cp &&& (63 : Int32))).toInt8.toInt32)))]))
      refine own_go (fun t k => XS.iload X69.here hx rfl (hb hby at_361) rfl  k) ?_
      have hc363 : (own_dec3 (((224 : Int32) ||| (cp >>> ((12 : Int32) &&& 31))).toInt8.toInt32) (((128 : Int32) ||| ((cp >>> ((6 : Int32) &&& 31)) &&& (63 : Int32))).toInt8.toInt32) (((128 : Int32) ||| (cp &&& (63 : Int32))).toInt8.toInt32)) = cp := (own_d3 hcp.1.1 hcp.1.2 hcp.2)
      refine own_go (fun t k => XS.icmpNo X69.here hx rfl (hb hby at_363) rfl (teq hc363).2 k) ?_
      refine own_go (fun t k => XS.iconst X69.here hx rfl (hb hby at_366) k) ?_
      refine own_go (fun t k => XS.goto X69.here hx rfl (pc0 := 367) (pc' := 371) rfl (hb hby at_367) (by decide) (by decide) k) ?_
      subst hΦ
      exact own_retN X69 hx (t := .boolean) Bd.returns (by simp) hlk (hb hby at_371) e69 ⟨rfl, N69⟩ (by decide) (by decide)
    · refine own_go (fun t k => XS.icmpNo X0.here hx rfl (hb hby at_67) rfl (flt hc67).1 k) ?_
      show own_Run p e below Φ (s₁.setTop (mkF m 70 #[.val (.int p1), .val (.int p2), .val (.int p3), .val (.int p4), .val (.int (2 : Int32)), .val (.int (p2 &&& (2147483647 : Int32))), .val (.int cx), .unset, .unset, .unset, .unset, .unset] []))
      refine own_go (fun t k => XS.iload X0.here hx rfl (hb hby at_70) rfl  k) ?_
      refine own_go (fun t k => XS.sipush X0.here hx rfl (hb hby at_72) k) ?_
      refine own_go (fun t k => XS.iadd X0.here hx rfl (hb hby at_75) rfl k) ?_
      refine own_go (fun t k => XS.istore X0.here hx rfl (hb hby at_76) rfl (l' := #[.val (.int p1), .val (.int p2), .val (.int p3), .val (.int p4), .val (.int (2 : Int32)), .val (.int (p2 &&& (2147483647 : Int32))), .val (.int (cx + (2048 : Int32))), .unset, .unset, .unset, .unset, .unset]) rfl k) ?_
      refine own_go (fun t k => XS.goto X0.here hx rfl (pc0 := 78) (pc' := 91) rfl (hb hby at_78) (by decide) (by decide) k) ?_
      show own_Run p e below Φ (s₁.setTop (mkF m 91 #[.val (.int p1), .val (.int p2), .val (.int p3), .val (.int p4), .val (.int (2 : Int32)), .val (.int (p2 &&& (2147483647 : Int32))), .val (.int (cx + (2048 : Int32))), .unset, .unset, .unset, .unset, .unset] []))
      have hcp : (2048 ≤ (cx + (2048 : Int32)).toInt ∧ (cx + (2048 : Int32)).toInt < 65536) ∧ ((cx + (2048 : Int32)).toInt < 55296 ∨ 57343 < (cx + (2048 : Int32)).toInt) := by have := own_q2a hq2.2 hc67; omega
      generalize ecp : (cx + (2048 : Int32)) = cp at hcp ⊢
      show own_Run p e below Φ (s₁.setTop (mkF m 91 #[.val (.int p1), .val (.int p2), .val (.int p3), .val (.int p4), .val (.int (2 : Int32)), .val (.int (p2 &&& (2147483647 : Int32))), .val (.int cp), .unset, .unset, .unset, .unset, .unset] []))
      refine own_go (fun t k => XS.iloadN X0.here hx rfl (hb hby at_91) rfl  k) ?_
      refine own_go (fun t k => XS.iconst X0.here hx rfl (hb hby at_92) k) ?_
      refine own_go (fun t k => XS.iand X0.here hx rfl (hb hby at_93) rfl k) ?_
      refine own_go (fun t k => XS.istore X0.here hx rfl (hb hby at_94) rfl (l' := #[.val (.int p1), .val (.int p2), .val (.int p3), .val (.int p4), .val (.int (2 : Int32)), .val (.int (p2 &&& (2147483647 : Int32))), .val (.int cp), .val (.int (p3 &&& (3 : Int32))), .unset, .unset, .unset, .unset]) rfl k) ?_
      refine own_go (fun t k => XS.iloadN X0.here hx rfl (hb hby at_96) rfl  k) ?_
      show own_Run p e below Φ (s₁.setTop (mkF m 97 #[.val (.int p1), .val (.int p2), .val (.int p3), .val (.int p4), .val (.int (2 : Int32)), .val (.int (p2 &&& (2147483647 : Int32))), .val (.int cp), .val (.int (p3 &&& (3 : Int32))), .unset, .unset, .unset, .unset] [(.int p4)]))
      refine own_go (fun t k => XS.i2b X0.here hx rfl (hb hby at_97) rfl k) ?_
      refine own_go (fun t k => XS.istore X0.here hx rfl (hb hby at_98) rfl (l' := #[.val (.int p1), .val (.int p2), .val (.int p3), .val (.int p4), .val (.int (2 : Int32)), .val (.int (p2 &&& (2147483647 : Int32))), .val (.int cp), .val (.int (p3 &&& (3 : Int32))), .val (.int (p4.toInt8.toInt32)), .unset, .unset, .unset]) rfl k) ?_
      show own_Run p e below Φ (s₁.setTop (mkF m 100 #[.val (.int p1), .val (.int p2), .val (.int p3), .val (.int p4), .val (.int (2 : Int32)), .val (.int (p2 &&& (2147483647 : Int32))), .val (.int cp), .val (.int (p3 &&& (3 : Int32))), .val (.int (p4.toInt8.toInt32)), .unset, .unset, .unset] []))
      have hoff := own_and3 p3
      generalize eoff : (p3 &&& (3 : Int32)) = off at hoff ⊢
      have hfb := own_b8 p4
      generalize efb : p4.toInt8.toInt32 = fb at hfb ⊢
      show own_Run p e below Φ (s₁.setTop (mkF m 100 #[.val (.int p1), .val (.int p2), .val (.int p3), .val (.int p4), .val (.int (2 : Int32)), .val (.int (p2 &&& (2147483647 : Int32))), .val (.int cp), .val (.int off), .val (.int fb), .unset, .unset, .unset] []))
      refine own_go (fun t k => XS.bipush X0.here hx rfl (hb hby at_100) k) ?_
      refine own_newP X0 hx hZ (hw _ (List.mem_of_getElem? (i := 1) rfl)) e0 (g := (mkF m 102 #[.val (.int p1), .val (.int p2), .val (.int p3), .val (.int p4), .val (.int (2 : Int32)), .val (.int (p2 &&& (2147483647 : Int32))), .val (.int cp), .val (.int off), .val (.int fb), .unset, .unset, .unset] [(.int (8 : Int32))])) rfl (hb hby at_102) rfl (by decide) 8 (by decide) (by decide) (by decide) (by decide) 8 (fun T70 h70 k70 b70 X70 e70 E70 g70 V70 => ?_)
      replace V70 : Arv Z h70 b70 k70 .byte (8 : Int32) [(.int (0 : Int32)), (.int (0 : Int32)), (.int (0 : Int32)), (.int (0 : Int32)), (.int (0 : Int32)), (.int (0 : Int32)), (.int (0 : Int32)), (.int (0 : Int32))] (.int (0 : Int32)) := V70
      refine own_go (fun t k => XS.astore X70.here hx rfl (hb hby at_104) rfl rfl (l' := #[.val (.int p1), .val (.int p2), .val (.int p3), .val (.int p4), .val (.int (2 : Int32)), .val (.int (p2 &&& (2147483647 : Int32))), .val (.int cp), .val (.int off), .val (.int fb), .val (.ref b70), .unset, .unset]) rfl k) ?_
      refine own_go (fun t k => XS.aload X70.here hx rfl (hb hby at_106) rfl rfl  k) ?_
      refine own_go (fun t k => XS.iconst X70.here hx rfl (hb hby at_108) k) ?_
      show own_Run p e below Φ (T70.setTop (mkF m 109 #[.val (.int p1), .val (.int p2), .val (.int p3), .val (.int p4), .val (.int (2 : Int32)), .val (.int (p2 &&& (2147483647 : Int32))), .val (.int cp), .val (.int off), .val (.int fb), .val (.ref b70), .unset, .unset] [(.int (0 : Int32)), (.ref b70)]))
      refine own_go (fun t k => XS.iload X70.here hx rfl (hb hby at_109) rfl  k) ?_
      refine own_bastore X70 hx hZ e70 V70 (j := (0 : Int32)) ⟨by decide, by decide⟩ 0 rfl (Nat.le_of_ble_eq_true rfl) (g := (mkF m 111 #[.val (.int p1), .val (.int p2), .val (.int p3), .val (.int p4), .val (.int (2 : Int32)), .val (.int (p2 &&& (2147483647 : Int32))), .val (.int cp), .val (.int off), .val (.int fb), .val (.ref b70), .unset, .unset] [(.int fb), (.int (0 : Int32)), (.ref b70)])) rfl rfl (hb hby at_111) (fun T72 h72 X72 e72 W72 V72 => ?_)
      replace V72 : Arv Z h72 b70 k70 .byte (8 : Int32) [(.int (fb.toInt8.toInt32)), (.int (0 : Int32)), (.int (0 : Int32)), (.int (0 : Int32)), (.int (0 : Int32)), (.int (0 : Int32)), (.int (0 : Int32)), (.int (0 : Int32))] (.int (0 : Int32)) := V72
      have N72 := Fr.snoc X72 N0 (Nat.le_trans Z0 (Nat.le_of_eq g70.symm))
      refine own_go (fun t k => XS.aload X72.here hx rfl (hb hby at_112) rfl rfl  k) ?_
      refine own_go (fun t k => XS.iconst X72.here hx rfl (hb hby at_114) k) ?_
      refine own_go (fun t k => XS.iload X72.here hx rfl (hb hby at_115) rfl  k) ?_
      show own_Run p e below Φ (T72.setTop (mkF m 117 #[.val (.int p1), .val (.int p2), .val (.int p3), .val (.int p4), .val (.int (2 : Int32)), .val (.int (p2 &&& (2147483647 : Int32))), .val (.int cp), .val (.int off), .val (.int fb), .val (.ref b70), .unset, .unset] [(.int fb), (.int (1 : Int32)), (.ref b70)]))
      refine own_bastore X72 hx hZ e72 V72 (j := (1 : Int32)) ⟨by decide, by decide⟩ 1 rfl (Nat.le_of_ble_eq_true rfl) (g := (mkF m 117 #[.val (.int p1), .val (.int p2), .val (.int p3), .val (.int p4), .val (.int (2 : Int32)), .val (.int (p2 &&& (2147483647 : Int32))), .val (.int cp), .val (.int off), .val (.int fb), .val (.ref b70), .unset, .unset] [(.int fb), (.int (1 : Int32)), (.ref b70)])) rfl rfl (hb hby at_117) (fun T73 h73 X73 e73 W73 V73 => ?_)
      replace V73 : Arv Z h73 b70 k70 .byte (8 : Int32) [(.int (fb.toInt8.toInt32)), (.int (fb.toInt8.toInt32)), (.int (0 : Int32)), (.int (0 : Int32)), (.int (0 : Int32)), (.int (0 : Int32)), (.int (0 : Int32)), (.int (0 : Int32))] (.int (0 : Int32)) := V73
      have N73 := Fr.snoc X73 N72 (Nat.le_trans Z0 (Nat.le_of_eq g70.symm))
      refine own_go (fun t k => XS.aload X73.here hx rfl (hb hby at_118) rfl rfl  k) ?_
      refine own_go (fun t k => XS.iconst X73.here hx rfl (hb hby at_120) k) ?_
      refine own_go (fun t k => XS.iload X73.here hx rfl (hb hby at_121) rfl  k) ?_
      refine own_bastore X73 hx hZ e73 V73 (j := (2 : Int32)) ⟨by decide, by decide⟩ 2 rfl (Nat.le_of_ble_eq_true rfl) (g := (mkF m 123 #[.val (.int p1), .val (.int p2), .val (.int p3), .val (.int p4), .val (.int (2 : Int32)), .val (.int (p2 &&& (2147483647 : Int32))), .val (.int cp), .val (.int off), .val (.int fb), .val (.ref b70), .unset, .unset] [(.int fb), (.int (2 : Int32)), (.ref b70)])) rfl rfl (hb hby at_123) (fun T74 h74 X74 e74 W74 V74 => ?_)
      replace V74 : Arv Z h74 b70 k70 .byte (8 : Int32) [(.int (fb.toInt8.toInt32)), (.int (fb.toInt8.toInt32)), (.int (fb.toInt8.toInt32)), (.int (0 : Int32)), (.int (0 : Int32)), (.int (0 : Int32)), (.int (0 : Int32)), (.int (0 : Int32))] (.int (0 : Int32)) := V74
      have N74 := Fr.snoc X74 N73 (Nat.le_trans Z0 (Nat.le_of_eq g70.symm))
      show own_Run p e below Φ (T74.setTop (mkF m 124 #[.val (.int p1), .val (.int p2), .val (.int p3), .val (.int p4), .val (.int (2 : Int32)), .val (.int (p2 &&& (2147483647 : Int32))), .val (.int cp), .val (.int off), .val (.int fb), .val (.ref b70), .unset, .unset] []))
      refine own_go (fun t k => XS.aload X74.here hx rfl (hb hby at_124) rfl rfl  k) ?_
      refine own_go (fun t k => XS.iconst X74.here hx rfl (hb hby at_126) k) ?_
      refine own_go (fun t k => XS.iload X74.here hx rfl (hb hby at_127) rfl  k) ?_
      refine own_bastore X74 hx hZ e74 V74 (j := (3 : Int32)) ⟨by decide, by decide⟩ 3 rfl (Nat.le_of_ble_eq_true rfl) (g := (mkF m 129 #[.val (.int p1), .val (.int p2), .val (.int p3), .val (.int p4), .val (.int (2 : Int32)), .val (.int (p2 &&& (2147483647 : Int32))), .val (.int cp), .val (.int off), .val (.int fb), .val (.ref b70), .unset, .unset] [(.int fb), (.int (3 : Int32)), (.ref b70)])) rfl rfl (hb hby at_129) (fun T75 h75 X75 e75 W75 V75 => ?_)
      replace V75 : Arv Z h75 b70 k70 .byte (8 : Int32) [(.int (fb.toInt8.toInt32)), (.int (fb.toInt8.toInt32)), (.int (fb.toInt8.toInt32)), (.int (fb.toInt8.toInt32)), (.int (0 : Int32)), (.int (0 : Int32)), (.int (0 : Int32)), (.int (0 : Int32))] (.int (0 : Int32)) := V75
      have N75 := Fr.snoc X75 N74 (Nat.le_trans Z0 (Nat.le_of_eq g70.symm))
      refine own_go (fun t k => XS.aload X75.here hx rfl (hb hby at_130) rfl rfl  k) ?_
      show own_Run p e below Φ (T75.setTop (mkF m 132 #[.val (.int p1), .val (.int p2), .val (.int p3), .val (.int p4), .val (.int (2 : Int32)), .val (.int (p2 &&& (2147483647 : Int32))), .val (.int cp), .val (.int off), .val (.int fb), .val (.ref b70), .unset, .unset] [(.ref b70)]))
      refine own_go (fun t k => XS.iconst X75.here hx rfl (hb hby at_132) k) ?_
      refine own_go (fun t k => XS.iload X75.here hx rfl (hb hby at_133) rfl  k) ?_
      refine own_bastore X75 hx hZ e75 V75 (j := (4 : Int32)) ⟨by decide, by decide⟩ 4 rfl (Nat.le_of_ble_eq_true rfl) (g := (mkF m 135 #[.val (.int p1), .val (.int p2), .val (.int p3), .val (.int p4), .val (.int (2 : Int32)), .val (.int (p2 &&& (2147483647 : Int32))), .val (.int cp), .val (.int off), .val (.int fb), .val (.ref b70), .unset, .unset] [(.int fb), (.int (4 : Int32)), (.ref b70)])) rfl rfl (hb hby at_135) (fun T76 h76 X76 e76 W76 V76 => ?_)
      replace V76 : Arv Z h76 b70 k70 .byte (8 : Int32) [(.int (fb.toInt8.toInt32)), (.int (fb.toInt8.toInt32)), (.int (fb.toInt8.toInt32)), (.int (fb.toInt8.toInt32)), (.int (fb.toInt8.toInt32)), (.int (0 : Int32)), (.int (0 : Int32)), (.int (0 : Int32))] (.int (0 : Int32)) := V76
      have N76 := Fr.snoc X76 N75 (Nat.le_trans Z0 (Nat.le_of_eq g70.symm))
      refine own_go (fun t k => XS.aload X76.here hx rfl (hb hby at_136) rfl rfl  k) ?_
      refine own_go (fun t k => XS.iconst X76.here hx rfl (hb hby at_138) k) ?_
      show own_Run p e below Φ (T76.setTop (mkF m 139 #[.val (.int p1), .val (.int p2), .val (.int p3), .val (.int p4), .val (.int (2 : Int32)), .val (.int (p2 &&& (2147483647 : Int32))), .val (.int cp), .val (.int off), .val (.int fb), .val (.ref b70), .unset, .unset] [(.int (5 : Int32)), (.ref b70)]))
      refine own_go (fun t k => XS.iload X76.here hx rfl (hb hby at_139) rfl  k) ?_
      refine own_bastore X76 hx hZ e76 V76 (j := (5 : Int32)) ⟨by decide, by decide⟩ 5 rfl (Nat.le_of_ble_eq_true rfl) (g := (mkF m 141 #[.val (.int p1), .val (.int p2), .val (.int p3), .val (.int p4), .val (.int (2 : Int32)), .val (.int (p2 &&& (2147483647 : Int32))), .val (.int cp), .val (.int off), .val (.int fb), .val (.ref b70), .unset, .unset] [(.int fb), (.int (5 : Int32)), (.ref b70)])) rfl rfl (hb hby at_141) (fun T77 h77 X77 e77 W77 V77 => ?_)
      replace V77 : Arv Z h77 b70 k70 .byte (8 : Int32) [(.int (fb.toInt8.toInt32)), (.int (fb.toInt8.toInt32)), (.int (fb.toInt8.toInt32)), (.int (fb.toInt8.toInt32)), (.int (fb.toInt8.toInt32)), (.int (fb.toInt8.toInt32)), (.int (0 : Int32)), (.int (0 : Int32))] (.int (0 : Int32)) := V77
      have N77 := Fr.snoc X77 N76 (Nat.le_trans Z0 (Nat.le_of_eq g70.symm))
      refine own_go (fun t k => XS.aload X77.here hx rfl (hb hby at_142) rfl rfl  k) ?_
      refine own_go (fun t k => XS.bipush X77.here hx rfl (hb hby at_144) k) ?_
      refine own_go (fun t k => XS.iload X77.here hx rfl (hb hby at_146) rfl  k) ?_
      show own_Run p e below Φ (T77.setTop (mkF m 148 #[.val (.int p1), .val (.int p2), .val (.int p3), .val (.int p4), .val (.int (2 : Int32)), .val (.int (p2 &&& (2147483647 : Int32))), .val (.int cp), .val (.int off), .val (.int fb), .val (.ref b70), .unset, .unset] [(.int fb), (.int (6 : Int32)), (.ref b70)]))
      refine own_bastore X77 hx hZ e77 V77 (j := (6 : Int32)) ⟨by decide, by decide⟩ 6 rfl (Nat.le_of_ble_eq_true rfl) (g := (mkF m 148 #[.val (.int p1), .val (.int p2), .val (.int p3), .val (.int p4), .val (.int (2 : Int32)), .val (.int (p2 &&& (2147483647 : Int32))), .val (.int cp), .val (.int off), .val (.int fb), .val (.ref b70), .unset, .unset] [(.int fb), (.int (6 : Int32)), (.ref b70)])) rfl rfl (hb hby at_148) (fun T78 h78 X78 e78 W78 V78 => ?_)
      replace V78 : Arv Z h78 b70 k70 .byte (8 : Int32) [(.int (fb.toInt8.toInt32)), (.int (fb.toInt8.toInt32)), (.int (fb.toInt8.toInt32)), (.int (fb.toInt8.toInt32)), (.int (fb.toInt8.toInt32)), (.int (fb.toInt8.toInt32)), (.int (fb.toInt8.toInt32)), (.int (0 : Int32))] (.int (0 : Int32)) := V78
      have N78 := Fr.snoc X78 N77 (Nat.le_trans Z0 (Nat.le_of_eq g70.symm))
      refine own_go (fun t k => XS.aload X78.here hx rfl (hb hby at_149) rfl rfl  k) ?_
      refine own_go (fun t k => XS.bipush X78.here hx rfl (hb hby at_151) k) ?_
      refine own_go (fun t k => XS.iload X78.here hx rfl (hb hby at_153) rfl  k) ?_
      refine own_bastore X78 hx hZ e78 V78 (j := (7 : Int32)) ⟨by decide, by decide⟩ 7 rfl (Nat.le_of_ble_eq_true rfl) (g := (mkF m 155 #[.val (.int p1), .val (.int p2), .val (.int p3), .val (.int p4), .val (.int (2 : Int32)), .val (.int (p2 &&& (2147483647 : Int32))), .val (.int cp), .val (.int off), .val (.int fb), .val (.ref b70), .unset, .unset] [(.int fb), (.int (7 : Int32)), (.ref b70)])) rfl rfl (hb hby at_155) (fun T79 h79 X79 e79 W79 V79 => ?_)
      replace V79 : Arv Z h79 b70 k70 .byte (8 : Int32) [(.int (fb.toInt8.toInt32)), (.int (fb.toInt8.toInt32)), (.int (fb.toInt8.toInt32)), (.int (fb.toInt8.toInt32)), (.int (fb.toInt8.toInt32)), (.int (fb.toInt8.toInt32)), (.int (fb.toInt8.toInt32)), (.int (fb.toInt8.toInt32))] (.int (0 : Int32)) := V79
      have N79 := Fr.snoc X79 N78 (Nat.le_trans Z0 (Nat.le_of_eq g70.symm))
      show own_Run p e below Φ (T79.setTop (mkF m 156 #[.val (.int p1), .val (.int p2), .val (.int p3), .val (.int p4), .val (.int (2 : Int32)), .val (.int (p2 &&& (2147483647 : Int32))), .val (.int cp), .val (.int off), .val (.int fb), .val (.ref b70), .unset, .unset] []))
      rw [hfb] at V79
      have Q80 : Arv Z h79 b70 k70 .byte (8 : Int32) (own_z fb) (.int (0 : Int32)) := V79
      refine own_go (fun t k => XS.iload X79.here hx rfl (hb hby at_156) rfl  k) ?_
      refine own_go (fun t k => XS.aload X79.here hx rfl (hb hby at_158) rfl rfl  k) ?_
      refine own_go (fun t k => XS.iload X79.here hx rfl (hb hby at_160) rfl  k) ?_
      refine own_callS X79 hx hZ (y := (⟨"com/example/templum/templum/validation/Utf8", "encode", "(I[BI)I"⟩ : MethodName)) (W := 0) (argsL := [(.int cp), (.ref b70), (.int off)]) (rest := []) hown (hw _ (List.mem_of_getElem? (i := 2) rfl)) (hw _ (List.mem_of_getElem? (i := 3) rfl)) (hw _ (List.mem_of_getElem? (i := 4) rfl)) (hw _ (List.mem_of_getElem? (i := 5) rfl)) (by decide) (own_bk (rm_enc3 l Z a0 hw cp b70 off k70 fb (0 : Int32) h79 n0 Q80 (Nat.le_trans Z0 (Nat.le_of_eq g70.symm)) hoff hcp.1.1 hcp.1.2) hZ (hw _ (List.mem_of_getElem? (i := 5) rfl)) (hw _ (List.mem_of_getElem? (i := 4) rfl)) (by decide) (by decide)) e79 (g := (mkF m 162 #[.val (.int p1), .val (.int p2), .val (.int p3), .val (.int p4), .val (.int (2 : Int32)), .val (.int (p2 &&& (2147483647 : Int32))), .val (.int cp), .val (.int off), .val (.int fb), .val (.ref b70), .unset, .unset] [(.int off), (.ref b70), (.int cp)])) rfl (by rw [hml]; rfl) (lenOf pd_0 rfl) rfl (by show 2 * 0 + _ ≤ _; exact Nat.le_of_eq rfl) (hb hby at_162) (by decide) (by decide) (fun v81 T81 h81 L81 X81 e81 q81 => ?_)
      obtain ⟨rfl, M81, K81, P81_0⟩ := q81
      have N81 := Fr.app N79 M81
      refine own_go (fun t k => XS.istore X81.here hx rfl (hb hby at_165) rfl (l' := #[.val (.int p1), .val (.int p2), .val (.int p3), .val (.int p4), .val (.int (2 : Int32)), .val (.int (p2 &&& (2147483647 : Int32))), .val (.int cp), .val (.int off), .val (.int fb), .val (.ref b70), .val (.int (3 : Int32)), .unset]) rfl k) ?_
      show own_Run p e below Φ (T81.setTop (mkF m 167 #[.val (.int p1), .val (.int p2), .val (.int p3), .val (.int p4), .val (.int (2 : Int32)), .val (.int (p2 &&& (2147483647 : Int32))), .val (.int cp), .val (.int off), .val (.int fb), .val (.ref b70), .val (.int (3 : Int32)), .unset] []))
      refine own_go (fun t k => XS.iload X81.here hx rfl (hb hby at_167) rfl  k) ?_
      refine own_go (fun t k => XS.iload X81.here hx rfl (hb hby at_169) rfl  k) ?_
      refine own_go (fun t k => XS.iconst X81.here hx rfl (hb hby at_171) k) ?_
      refine own_go (fun t k => XS.iadd X81.here hx rfl (hb hby at_172) rfl k) ?_
      show own_Run p e below Φ (T81.setTop (mkF m 173 #[.val (.int p1), .val (.int p2), .val (.int p3), .val (.int p4), .val (.int (2 : Int32)), .val (.int (p2 &&& (2147483647 : Int32))), .val (.int cp), .val (.int off), .val (.int fb), .val (.ref b70), .val (.int (3 : Int32)), .unset] [(.int ((2 : Int32) + (1 : Int32))), (.int (3 : Int32))]))
      rw [show ((2 : Int32) + (1 : Int32)) = (3 : Int32) from by decide]
      show own_Run p e below Φ (T81.setTop (mkF m 173 #[.val (.int p1), .val (.int p2), .val (.int p3), .val (.int p4), .val (.int (2 : Int32)), .val (.int (p2 &&& (2147483647 : Int32))), .val (.int cp), .val (.int off), .val (.int fb), .val (.ref b70), .val (.int (3 : Int32)), .unset] [(.int (3 : Int32)), (.int (3 : Int32))]))
      refine own_go (fun t k => XS.icmpYes X81.here hx rfl (pc0 := 173) (pc' := 178) rfl (hb hby at_173) rfl (teq (rfl : (3 : Int32) = (3 : Int32))).1 (by decide) (by decide) k) ?_
      refine own_go (fun t k => XS.aload X81.here hx rfl (hb hby at_178) rfl rfl  k) ?_
      refine own_go (fun t k => XS.iconst X81.here hx rfl (hb hby at_180) k) ?_
      refine own_go (fun t k => XS.iload X81.here hx rfl (hb hby at_181) rfl  k) ?_
      refine own_go (fun t k => XS.iload X81.here hx rfl (hb hby at_183) rfl  k) ?_
      show own_Run p e below Φ (T81.setTop (mkF m 185 #[.val (.int p1), .val (.int p2), .val (.int p3), .val (.int p4), .val (.int (2 : Int32)), .val (.int (p2 &&& (2147483647 : Int32))), .val (.int cp), .val (.int off), .val (.int fb), .val (.ref b70), .val (.int (3 : Int32)), .unset] [(.int (3 : Int32)), (.int off), (.int (0 : Int32)), (.ref b70)]))
      refine own_go (fun t k => XS.iload X81.here hx rfl (hb hby at_185) rfl  k) ?_
      refine own_callS X81 hx hZ (y := (⟨"com/example/templum/templum/validation/Utf8EncodePinLaw", "kept", "([BIIIB)Z"⟩ : MethodName)) (W := 0) (argsL := [(.ref b70), (.int (0 : Int32)), (.int off), (.int (3 : Int32)), (.int fb)]) (rest := []) hown (hw _ (List.mem_of_getElem? (i := 6) rfl)) (hw _ (List.mem_of_getElem? (i := 7) rfl)) (hw _ (List.mem_of_getElem? (i := 8) rfl)) (hw _ (List.mem_of_getElem? (i := 9) rfl)) (by decide) (own_bk (rm_kept l Z a0 hw b70 (0 : Int32) off (3 : Int32) fb k70 (own_v3 fb off (((224 : Int32) ||| (cp >>> ((12 : Int32) &&& 31))).toInt8.toInt32) (((128 : Int32) ||| ((cp >>> ((6 : Int32) &&& 31)) &&& (63 : Int32))).toInt8.toInt32) (((128 : Int32) ||| (cp &&& (63 : Int32))).toInt8.toInt32)) (0 : Int32) h81 n0 P81_0 ⟨by decide, by decide⟩ (own_k30 hoff)) hZ (hw _ (List.mem_of_getElem? (i := 9) rfl)) (hw _ (List.mem_of_getElem? (i := 8) rfl)) (by decide) (by decide)) e81 (g := (mkF m 187 #[.val (.int p1), .val (.int p2), .val (.int p3), .val (.int p4), .val (.int (2 : Int32)), .val (.int (p2 &&& (2147483647 : Int32))), .val (.int cp), .val (.int off), .val (.int fb), .val (.ref b70), .val (.int (3 : Int32)), .unset] [(.int fb), (.int (3 : Int32)), (.int off), (.int (0 : Int32)), (.ref b70)])) rfl (by rw [hml]; rfl) (lenOf pd_1 rfl) rfl (by show 2 * 0 + _ ≤ _; exact Nat.le_of_eq rfl) (hb hby at_187) (by decide) (by decide) (fun v82 T82 h82 L82 X82 e82 q82 => ?_)
      obtain ⟨rfl, M82, s82⟩ := q82
      replace e82 : T82.heap = h81 := e82.trans s82
      have N82 := Fr.app N81 M82
      refine own_go (fun t k => XS.ifNo X82.here hx rfl (hb hby at_190) rfl ((if0 _ _).trans (feq (by decide : ¬ ((1 : Int32) = (0 : Int32)))).1) k) ?_
      refine own_go (fun t k => XS.aload X82.here hx rfl (hb hby at_193) rfl rfl  k) ?_
      refine own_go (fun t k => XS.iconst X82.here hx rfl (hb hby at_195) k) ?_
      show own_Run p e below Φ (T82.setTop (mkF m 196 #[.val (.int p1), .val (.int p2), .val (.int p3), .val (.int p4), .val (.int (2 : Int32)), .val (.int (p2 &&& (2147483647 : Int32))), .val (.int cp), .val (.int off), .val (.int fb), .val (.ref b70), .val (.int (3 : Int32)), .unset] [(.int (1 : Int32)), (.ref b70)]))
      refine own_go (fun t k => XS.iload X82.here hx rfl (hb hby at_196) rfl  k) ?_
      refine own_go (fun t k => XS.iload X82.here hx rfl (hb hby at_198) rfl  k) ?_
      refine own_go (fun t k => XS.iload X82.here hx rfl (hb hby at_200) rfl  k) ?_
      refine own_callS X82 hx hZ (y := (⟨"com/example/templum/templum/validation/Utf8EncodePinLaw", "kept", "([BIIIB)Z"⟩ : MethodName)) (W := 0) (argsL := [(.ref b70), (.int (1 : Int32)), (.int off), (.int (3 : Int32)), (.int fb)]) (rest := []) hown (hw _ (List.mem_of_getElem? (i := 6) rfl)) (hw _ (List.mem_of_getElem? (i := 7) rfl)) (hw _ (List.mem_of_getElem? (i := 8) rfl)) (hw _ (List.mem_of_getElem? (i := 9) rfl)) (by decide) (own_bk (rm_kept l Z a0 hw b70 (1 : Int32) off (3 : Int32) fb k70 (own_v3 fb off (((224 : Int32) ||| (cp >>> ((12 : Int32) &&& 31))).toInt8.toInt32) (((128 : Int32) ||| ((cp >>> ((6 : Int32) &&& 31)) &&& (63 : Int32))).toInt8.toInt32) (((128 : Int32) ||| (cp &&& (63 : Int32))).toInt8.toInt32)) (0 : Int32) h81 n0 P81_0 ⟨by decide, by decide⟩ (own_k31 hoff)) hZ (hw _ (List.mem_of_getElem? (i := 9) rfl)) (hw _ (List.mem_of_getElem? (i := 8) rfl)) (by decide) (by decide)) e82 (g := (mkF m 202 #[.val (.int p1), .val (.int p2), .val (.int p3), .val (.int p4), .val (.int (2 : Int32)), .val (.int (p2 &&& (2147483647 : Int32))), .val (.int cp), .val (.int off), .val (.int fb), .val (.ref b70), .val (.int (3 : Int32)), .unset] [(.int fb), (.int (3 : Int32)), (.int off), (.int (1 : Int32)), (.ref b70)])) rfl (by rw [hml]; rfl) (lenOf pd_1 rfl) rfl (by show 2 * 0 + _ ≤ _; exact Nat.le_of_eq rfl) (hb hby at_202) (by decide) (by decide) (fun v83 T83 h83 L83 X83 e83 q83 => ?_)
      obtain ⟨rfl, M83, s83⟩ := q83
      replace e83 : T83.heap = h81 := e83.trans s83
      have N83 := Fr.app N82 M83
      refine own_go (fun t k => XS.ifNo X83.here hx rfl (hb hby at_205) rfl ((if0 _ _).trans (feq (by decide : ¬ ((1 : Int32) = (0 : Int32)))).1) k) ?_
      show own_Run p e below Φ (T83.setTop (mkF m 208 #[.val (.int p1), .val (.int p2), .val (.int p3), .val (.int p4), .val (.int (2 : Int32)), .val (.int (p2 &&& (2147483647 : Int32))), .val (.int cp), .val (.int off), .val (.int fb), .val (.ref b70), .val (.int (3 : Int32)), .unset] []))
      refine own_go (fun t k => XS.aload X83.here hx rfl (hb hby at_208) rfl rfl  k) ?_
      refine own_go (fun t k => XS.iconst X83.here hx rfl (hb hby at_210) k) ?_
      refine own_go (fun t k => XS.iload X83.here hx rfl (hb hby at_211) rfl  k) ?_
      refine own_go (fun t k => XS.iload X83.here hx rfl (hb hby at_213) rfl  k) ?_
      refine own_go (fun t k => XS.iload X83.here hx rfl (hb hby at_215) rfl  k) ?_
      show own_Run p e below Φ (T83.setTop (mkF m 217 #[.val (.int p1), .val (.int p2), .val (.int p3), .val (.int p4), .val (.int (2 : Int32)), .val (.int (p2 &&& (2147483647 : Int32))), .val (.int cp), .val (.int off), .val (.int fb), .val (.ref b70), .val (.int (3 : Int32)), .unset] [(.int fb), (.int (3 : Int32)), (.int off), (.int (2 : Int32)), (.ref b70)]))
      refine own_callS X83 hx hZ (y := (⟨"com/example/templum/templum/validation/Utf8EncodePinLaw", "kept", "([BIIIB)Z"⟩ : MethodName)) (W := 0) (argsL := [(.ref b70), (.int (2 : Int32)), (.int off), (.int (3 : Int32)), (.int fb)]) (rest := []) hown (hw _ (List.mem_of_getElem? (i := 6) rfl)) (hw _ (List.mem_of_getElem? (i := 7) rfl)) (hw _ (List.mem_of_getElem? (i := 8) rfl)) (hw _ (List.mem_of_getElem? (i := 9) rfl)) (by decide) (own_bk (rm_kept l Z a0 hw b70 (2 : Int32) off (3 : Int32) fb k70 (own_v3 fb off (((224 : Int32) ||| (cp >>> ((12 : Int32) &&& 31))).toInt8.toInt32) (((128 : Int32) ||| ((cp >>> ((6 : Int32) &&& 31)) &&& (63 : Int32))).toInt8.toInt32) (((128 : Int32) ||| (cp &&& (63 : Int32))).toInt8.toInt32)) (0 : Int32) h81 n0 P81_0 ⟨by decide, by decide⟩ (own_k32 hoff)) hZ (hw _ (List.mem_of_getElem? (i := 9) rfl)) (hw _ (List.mem_of_getElem? (i := 8) rfl)) (by decide) (by decide)) e83 (g := (mkF m 217 #[.val (.int p1), .val (.int p2), .val (.int p3), .val (.int p4), .val (.int (2 : Int32)), .val (.int (p2 &&& (2147483647 : Int32))), .val (.int cp), .val (.int off), .val (.int fb), .val (.ref b70), .val (.int (3 : Int32)), .unset] [(.int fb), (.int (3 : Int32)), (.int off), (.int (2 : Int32)), (.ref b70)])) rfl (by rw [hml]; rfl) (lenOf pd_1 rfl) rfl (by show 2 * 0 + _ ≤ _; exact Nat.le_of_eq rfl) (hb hby at_217) (by decide) (by decide) (fun v84 T84 h84 L84 X84 e84 q84 => ?_)
      obtain ⟨rfl, M84, s84⟩ := q84
      replace e84 : T84.heap = h81 := e84.trans s84
      have N84 := Fr.app N83 M84
      refine own_go (fun t k => XS.ifNo X84.here hx rfl (hb hby at_220) rfl ((if0 _ _).trans (feq (by decide : ¬ ((1 : Int32) = (0 : Int32)))).1) k) ?_
      refine own_go (fun t k => XS.aload X84.here hx rfl (hb hby at_223) rfl rfl  k) ?_
      refine own_go (fun t k => XS.iconst X84.here hx rfl (hb hby at_225) k) ?_
      refine own_go (fun t k => XS.iload X84.here hx rfl (hb hby at_226) rfl  k) ?_
      show own_Run p e below Φ (T84.setTop (mkF m 228 #[.val (.int p1), .val (.int p2), .val (.int p3), .val (.int p4), .val (.int (2 : Int32)), .val (.int (p2 &&& (2147483647 : Int32))), .val (.int cp), .val (.int off), .val (.int fb), .val (.ref b70), .val (.int (3 : Int32)), .unset] [(.int off), (.int (3 : Int32)), (.ref b70)]))
      refine own_go (fun t k => XS.iload X84.here hx rfl (hb hby at_228) rfl  k) ?_
      refine own_go (fun t k => XS.iload X84.here hx rfl (hb hby at_230) rfl  k) ?_
      refine own_callS X84 hx hZ (y := (⟨"com/example/templum/templum/validation/Utf8EncodePinLaw", "kept", "([BIIIB)Z"⟩ : MethodName)) (W := 0) (argsL := [(.ref b70), (.int (3 : Int32)), (.int off), (.int (3 : Int32)), (.int fb)]) (rest := []) hown (hw _ (List.mem_of_getElem? (i := 6) rfl)) (hw _ (List.mem_of_getElem? (i := 7) rfl)) (hw _ (List.mem_of_getElem? (i := 8) rfl)) (hw _ (List.mem_of_getElem? (i := 9) rfl)) (by decide) (own_bk (rm_kept l Z a0 hw b70 (3 : Int32) off (3 : Int32) fb k70 (own_v3 fb off (((224 : Int32) ||| (cp >>> ((12 : Int32) &&& 31))).toInt8.toInt32) (((128 : Int32) ||| ((cp >>> ((6 : Int32) &&& 31)) &&& (63 : Int32))).toInt8.toInt32) (((128 : Int32) ||| (cp &&& (63 : Int32))).toInt8.toInt32)) (0 : Int32) h81 n0 P81_0 ⟨by decide, by decide⟩ (own_k33 hoff)) hZ (hw _ (List.mem_of_getElem? (i := 9) rfl)) (hw _ (List.mem_of_getElem? (i := 8) rfl)) (by decide) (by decide)) e84 (g := (mkF m 232 #[.val (.int p1), .val (.int p2), .val (.int p3), .val (.int p4), .val (.int (2 : Int32)), .val (.int (p2 &&& (2147483647 : Int32))), .val (.int cp), .val (.int off), .val (.int fb), .val (.ref b70), .val (.int (3 : Int32)), .unset] [(.int fb), (.int (3 : Int32)), (.int off), (.int (3 : Int32)), (.ref b70)])) rfl (by rw [hml]; rfl) (lenOf pd_1 rfl) rfl (by show 2 * 0 + _ ≤ _; exact Nat.le_of_eq rfl) (hb hby at_232) (by decide) (by decide) (fun v85 T85 h85 L85 X85 e85 q85 => ?_)
      obtain ⟨rfl, M85, s85⟩ := q85
      replace e85 : T85.heap = h81 := e85.trans s85
      have N85 := Fr.app N84 M85
      refine own_go (fun t k => XS.ifNo X85.here hx rfl (hb hby at_235) rfl ((if0 _ _).trans (feq (by decide : ¬ ((1 : Int32) = (0 : Int32)))).1) k) ?_
      refine own_go (fun t k => XS.aload X85.here hx rfl (hb hby at_238) rfl rfl  k) ?_
      show own_Run p e below Φ (T85.setTop (mkF m 240 #[.val (.int p1), .val (.int p2), .val (.int p3), .val (.int p4), .val (.int (2 : Int32)), .val (.int (p2 &&& (2147483647 : Int32))), .val (.int cp), .val (.int off), .val (.int fb), .val (.ref b70), .val (.int (3 : Int32)), .unset] [(.ref b70)]))
      refine own_go (fun t k => XS.iconst X85.here hx rfl (hb hby at_240) k) ?_
      refine own_go (fun t k => XS.iload X85.here hx rfl (hb hby at_241) rfl  k) ?_
      refine own_go (fun t k => XS.iload X85.here hx rfl (hb hby at_243) rfl  k) ?_
      refine own_go (fun t k => XS.iload X85.here hx rfl (hb hby at_245) rfl  k) ?_
      refine own_callS X85 hx hZ (y := (⟨"com/example/templum/templum/validation/Utf8EncodePinLaw", "kept", "([BIIIB)Z"⟩ : MethodName)) (W := 0) (argsL := [(.ref b70), (.int (4 : Int32)), (.int off), (.int (3 : Int32)), (.int fb)]) (rest := []) hown (hw _ (List.mem_of_getElem? (i := 6) rfl)) (hw _ (List.mem_of_getElem? (i := 7) rfl)) (hw _ (List.mem_of_getElem? (i := 8) rfl)) (hw _ (List.mem_of_getElem? (i := 9) rfl)) (by decide) (own_bk (rm_kept l Z a0 hw b70 (4 : Int32) off (3 : Int32) fb k70 (own_v3 fb off (((224 : Int32) ||| (cp >>> ((12 : Int32) &&& 31))).toInt8.toInt32) (((128 : Int32) ||| ((cp >>> ((6 : Int32) &&& 31)) &&& (63 : Int32))).toInt8.toInt32) (((128 : Int32) ||| (cp &&& (63 : Int32))).toInt8.toInt32)) (0 : Int32) h81 n0 P81_0 ⟨by decide, by decide⟩ (own_k34 hoff)) hZ (hw _ (List.mem_of_getElem? (i := 9) rfl)) (hw _ (List.mem_of_getElem? (i := 8) rfl)) (by decide) (by decide)) e85 (g := (mkF m 247 #[.val (.int p1), .val (.int p2), .val (.int p3), .val (.int p4), .val (.int (2 : Int32)), .val (.int (p2 &&& (2147483647 : Int32))), .val (.int cp), .val (.int off), .val (.int fb), .val (.ref b70), .val (.int (3 : Int32)), .unset] [(.int fb), (.int (3 : Int32)), (.int off), (.int (4 : Int32)), (.ref b70)])) rfl (by rw [hml]; rfl) (lenOf pd_1 rfl) rfl (by show 2 * 0 + _ ≤ _; exact Nat.le_of_eq rfl) (hb hby at_247) (by decide) (by decide) (fun v86 T86 h86 L86 X86 e86 q86 => ?_)
      obtain ⟨rfl, M86, s86⟩ := q86
      replace e86 : T86.heap = h81 := e86.trans s86
      have N86 := Fr.app N85 M86
      show own_Run p e below Φ (T86.setTop (mkF m 250 #[.val (.int p1), .val (.int p2), .val (.int p3), .val (.int p4), .val (.int (2 : Int32)), .val (.int (p2 &&& (2147483647 : Int32))), .val (.int cp), .val (.int off), .val (.int fb), .val (.ref b70), .val (.int (3 : Int32)), .unset] [(.int (1 : Int32))]))
      refine own_go (fun t k => XS.ifNo X86.here hx rfl (hb hby at_250) rfl ((if0 _ _).trans (feq (by decide : ¬ ((1 : Int32) = (0 : Int32)))).1) k) ?_
      refine own_go (fun t k => XS.aload X86.here hx rfl (hb hby at_253) rfl rfl  k) ?_
      refine own_go (fun t k => XS.iconst X86.here hx rfl (hb hby at_255) k) ?_
      refine own_go (fun t k => XS.iload X86.here hx rfl (hb hby at_256) rfl  k) ?_
      refine own_go (fun t k => XS.iload X86.here hx rfl (hb hby at_258) rfl  k) ?_
      show own_Run p e below Φ (T86.setTop (mkF m 260 #[.val (.int p1), .val (.int p2), .val (.int p3), .val (.int p4), .val (.int (2 : Int32)), .val (.int (p2 &&& (2147483647 : Int32))), .val (.int cp), .val (.int off), .val (.int fb), .val (.ref b70), .val (.int (3 : Int32)), .unset] [(.int (3 : Int32)), (.int off), (.int (5 : Int32)), (.ref b70)]))
      refine own_go (fun t k => XS.iload X86.here hx rfl (hb hby at_260) rfl  k) ?_
      refine own_callS X86 hx hZ (y := (⟨"com/example/templum/templum/validation/Utf8EncodePinLaw", "kept", "([BIIIB)Z"⟩ : MethodName)) (W := 0) (argsL := [(.ref b70), (.int (5 : Int32)), (.int off), (.int (3 : Int32)), (.int fb)]) (rest := []) hown (hw _ (List.mem_of_getElem? (i := 6) rfl)) (hw _ (List.mem_of_getElem? (i := 7) rfl)) (hw _ (List.mem_of_getElem? (i := 8) rfl)) (hw _ (List.mem_of_getElem? (i := 9) rfl)) (by decide) (own_bk (rm_kept l Z a0 hw b70 (5 : Int32) off (3 : Int32) fb k70 (own_v3 fb off (((224 : Int32) ||| (cp >>> ((12 : Int32) &&& 31))).toInt8.toInt32) (((128 : Int32) ||| ((cp >>> ((6 : Int32) &&& 31)) &&& (63 : Int32))).toInt8.toInt32) (((128 : Int32) ||| (cp &&& (63 : Int32))).toInt8.toInt32)) (0 : Int32) h81 n0 P81_0 ⟨by decide, by decide⟩ (own_k35 hoff)) hZ (hw _ (List.mem_of_getElem? (i := 9) rfl)) (hw _ (List.mem_of_getElem? (i := 8) rfl)) (by decide) (by decide)) e86 (g := (mkF m 262 #[.val (.int p1), .val (.int p2), .val (.int p3), .val (.int p4), .val (.int (2 : Int32)), .val (.int (p2 &&& (2147483647 : Int32))), .val (.int cp), .val (.int off), .val (.int fb), .val (.ref b70), .val (.int (3 : Int32)), .unset] [(.int fb), (.int (3 : Int32)), (.int off), (.int (5 : Int32)), (.ref b70)])) rfl (by rw [hml]; rfl) (lenOf pd_1 rfl) rfl (by show 2 * 0 + _ ≤ _; exact Nat.le_of_eq rfl) (hb hby at_262) (by decide) (by decide) (fun v87 T87 h87 L87 X87 e87 q87 => ?_)
      obtain ⟨rfl, M87, s87⟩ := q87
      replace e87 : T87.heap = h81 := e87.trans s87
      have N87 := Fr.app N86 M87
      refine own_go (fun t k => XS.ifNo X87.here hx rfl (hb hby at_265) rfl ((if0 _ _).trans (feq (by decide : ¬ ((1 : Int32) = (0 : Int32)))).1) k) ?_
      refine own_go (fun t k => XS.aload X87.here hx rfl (hb hby at_268) rfl rfl  k) ?_
      refine own_go (fun t k => XS.bipush X87.here hx rfl (hb hby at_270) k) ?_
      show own_Run p e below Φ (T87.setTop (mkF m 272 #[.val (.int p1), .val (.int p2), .val (.int p3), .val (.int p4), .val (.int (2 : Int32)), .val (.int (p2 &&& (2147483647 : Int32))), .val (.int cp), .val (.int off), .val (.int fb), .val (.ref b70), .val (.int (3 : Int32)), .unset] [(.int (6 : Int32)), (.ref b70)]))
      refine own_go (fun t k => XS.iload X87.here hx rfl (hb hby at_272) rfl  k) ?_
      refine own_go (fun t k => XS.iload X87.here hx rfl (hb hby at_274) rfl  k) ?_
      refine own_go (fun t k => XS.iload X87.here hx rfl (hb hby at_276) rfl  k) ?_
      refine own_callS X87 hx hZ (y := (⟨"com/example/templum/templum/validation/Utf8EncodePinLaw", "kept", "([BIIIB)Z"⟩ : MethodName)) (W := 0) (argsL := [(.ref b70), (.int (6 : Int32)), (.int off), (.int (3 : Int32)), (.int fb)]) (rest := []) hown (hw _ (List.mem_of_getElem? (i := 6) rfl)) (hw _ (List.mem_of_getElem? (i := 7) rfl)) (hw _ (List.mem_of_getElem? (i := 8) rfl)) (hw _ (List.mem_of_getElem? (i := 9) rfl)) (by decide) (own_bk (rm_kept l Z a0 hw b70 (6 : Int32) off (3 : Int32) fb k70 (own_v3 fb off (((224 : Int32) ||| (cp >>> ((12 : Int32) &&& 31))).toInt8.toInt32) (((128 : Int32) ||| ((cp >>> ((6 : Int32) &&& 31)) &&& (63 : Int32))).toInt8.toInt32) (((128 : Int32) ||| (cp &&& (63 : Int32))).toInt8.toInt32)) (0 : Int32) h81 n0 P81_0 ⟨by decide, by decide⟩ (own_k36 hoff)) hZ (hw _ (List.mem_of_getElem? (i := 9) rfl)) (hw _ (List.mem_of_getElem? (i := 8) rfl)) (by decide) (by decide)) e87 (g := (mkF m 278 #[.val (.int p1), .val (.int p2), .val (.int p3), .val (.int p4), .val (.int (2 : Int32)), .val (.int (p2 &&& (2147483647 : Int32))), .val (.int cp), .val (.int off), .val (.int fb), .val (.ref b70), .val (.int (3 : Int32)), .unset] [(.int fb), (.int (3 : Int32)), (.int off), (.int (6 : Int32)), (.ref b70)])) rfl (by rw [hml]; rfl) (lenOf pd_1 rfl) rfl (by show 2 * 0 + _ ≤ _; exact Nat.le_of_eq rfl) (hb hby at_278) (by decide) (by decide) (fun v88 T88 h88 L88 X88 e88 q88 => ?_)
      obtain ⟨rfl, M88, s88⟩ := q88
      replace e88 : T88.heap = h81 := e88.trans s88
      have N88 := Fr.app N87 M88
      refine own_go (fun t k => XS.ifNo X88.here hx rfl (hb hby at_281) rfl ((if0 _ _).trans (feq (by decide : ¬ ((1 : Int32) = (0 : Int32)))).1) k) ?_
      show own_Run p e below Φ (T88.setTop (mkF m 284 #[.val (.int p1), .val (.int p2), .val (.int p3), .val (.int p4), .val (.int (2 : Int32)), .val (.int (p2 &&& (2147483647 : Int32))), .val (.int cp), .val (.int off), .val (.int fb), .val (.ref b70), .val (.int (3 : Int32)), .unset] []))
      refine own_go (fun t k => XS.aload X88.here hx rfl (hb hby at_284) rfl rfl  k) ?_
      refine own_go (fun t k => XS.bipush X88.here hx rfl (hb hby at_286) k) ?_
      refine own_go (fun t k => XS.iload X88.here hx rfl (hb hby at_288) rfl  k) ?_
      refine own_go (fun t k => XS.iload X88.here hx rfl (hb hby at_290) rfl  k) ?_
      refine own_go (fun t k => XS.iload X88.here hx rfl (hb hby at_292) rfl  k) ?_
      show own_Run p e below Φ (T88.setTop (mkF m 294 #[.val (.int p1), .val (.int p2), .val (.int p3), .val (.int p4), .val (.int (2 : Int32)), .val (.int (p2 &&& (2147483647 : Int32))), .val (.int cp), .val (.int off), .val (.int fb), .val (.ref b70), .val (.int (3 : Int32)), .unset] [(.int fb), (.int (3 : Int32)), (.int off), (.int (7 : Int32)), (.ref b70)]))
      refine own_callS X88 hx hZ (y := (⟨"com/example/templum/templum/validation/Utf8EncodePinLaw", "kept", "([BIIIB)Z"⟩ : MethodName)) (W := 0) (argsL := [(.ref b70), (.int (7 : Int32)), (.int off), (.int (3 : Int32)), (.int fb)]) (rest := []) hown (hw _ (List.mem_of_getElem? (i := 6) rfl)) (hw _ (List.mem_of_getElem? (i := 7) rfl)) (hw _ (List.mem_of_getElem? (i := 8) rfl)) (hw _ (List.mem_of_getElem? (i := 9) rfl)) (by decide) (own_bk (rm_kept l Z a0 hw b70 (7 : Int32) off (3 : Int32) fb k70 (own_v3 fb off (((224 : Int32) ||| (cp >>> ((12 : Int32) &&& 31))).toInt8.toInt32) (((128 : Int32) ||| ((cp >>> ((6 : Int32) &&& 31)) &&& (63 : Int32))).toInt8.toInt32) (((128 : Int32) ||| (cp &&& (63 : Int32))).toInt8.toInt32)) (0 : Int32) h81 n0 P81_0 ⟨by decide, by decide⟩ (own_k37 hoff)) hZ (hw _ (List.mem_of_getElem? (i := 9) rfl)) (hw _ (List.mem_of_getElem? (i := 8) rfl)) (by decide) (by decide)) e88 (g := (mkF m 294 #[.val (.int p1), .val (.int p2), .val (.int p3), .val (.int p4), .val (.int (2 : Int32)), .val (.int (p2 &&& (2147483647 : Int32))), .val (.int cp), .val (.int off), .val (.int fb), .val (.ref b70), .val (.int (3 : Int32)), .unset] [(.int fb), (.int (3 : Int32)), (.int off), (.int (7 : Int32)), (.ref b70)])) rfl (by rw [hml]; rfl) (lenOf pd_1 rfl) rfl (by show 2 * 0 + _ ≤ _; exact Nat.le_of_eq rfl) (hb hby at_294) (by decide) (by decide) (fun v89 T89 h89 L89 X89 e89 q89 => ?_)
      obtain ⟨rfl, M89, s89⟩ := q89
      replace e89 : T89.heap = h81 := e89.trans s89
      have N89 := Fr.app N88 M89
      refine own_go (fun t k => XS.ifNo X89.here hx rfl (hb hby at_297) rfl ((if0 _ _).trans (feq (by decide : ¬ ((1 : Int32) = (0 : Int32)))).1) k) ?_
      refine own_go (fun t k => XS.iconst X89.here hx rfl (hb hby at_300) k) ?_
      refine own_go (fun t k => XS.goto X89.here hx rfl (pc0 := 301) (pc' := 305) rfl (hb hby at_301) (by decide) (by decide) k) ?_
      refine own_go (fun t k => XS.istore X89.here hx rfl (hb hby at_305) rfl (l' := #[.val (.int p1), .val (.int p2), .val (.int p3), .val (.int p4), .val (.int (2 : Int32)), .val (.int (p2 &&& (2147483647 : Int32))), .val (.int cp), .val (.int off), .val (.int fb), .val (.ref b70), .val (.int (3 : Int32)), .val (.int (1 : Int32))]) rfl k) ?_
      show own_Run p e below Φ (T89.setTop (mkF m 307 #[.val (.int p1), .val (.int p2), .val (.int p3), .val (.int p4), .val (.int (2 : Int32)), .val (.int (p2 &&& (2147483647 : Int32))), .val (.int cp), .val (.int off), .val (.int fb), .val (.ref b70), .val (.int (3 : Int32)), .val (.int (1 : Int32))] []))
      refine own_go (fun t k => XS.iload X89.here hx rfl (hb hby at_307) rfl  k) ?_
      refine own_go (fun t k => XS.ifYes X89.here hx rfl (pc0 := 309) (pc' := 314) rfl (hb hby at_309) rfl ((if0 _ _).trans (feq (by decide : ¬ ((1 : Int32) = (0 : Int32)))).2) (by decide) (by decide) k) ?_
      refine own_go (fun t k => XS.aload X89.here hx rfl (hb hby at_314) rfl rfl  k) ?_
      refine own_go (fun t k => XS.iload X89.here hx rfl (hb hby at_316) rfl  k) ?_
      refine own_baload X89 hx hZ e89 P81_0 (j := off) (v := (.int (((224 : Int32) ||| (cp >>> ((12 : Int32) &&& 31))).toInt8.toInt32))) (own_o0 hoff) (own_g30 hoff) (g := (mkF m 318 #[.val (.int p1), .val (.int p2), .val (.int p3), .val (.int p4), .val (.int (2 : Int32)), .val (.int (p2 &&& (2147483647 : Int32))), .val (.int cp), .val (.int off), .val (.int fb), .val (.ref b70), .val (.int (3 : Int32)), .val (.int (1 : Int32))] [(.int off), (.ref b70)])) rfl rfl (hb hby at_318) ?_
      show own_Run p e below Φ (T89.setTop (mkF m 319 #[.val (.int p1), .val (.int p2), .val (.int p3), .val (.int p4), .val (.int (2 : Int32)), .val (.int (p2 &&& (2147483647 : Int32))), .val (.int cp), .val (.int off), .val (.int fb), .val (.ref b70), .val (.int (3 : Int32)), .val (.int (1 : Int32))] [(.int (((224 : Int32) ||| (cp >>> ((12 : Int32) &&& 31))).toInt8.toInt32))]))
      refine own_callS X89 hx hZ (y := (⟨"com/example/templum/templum/validation/Utf8", "length", "(B)I"⟩ : MethodName)) (W := 0) (argsL := [(.int (((224 : Int32) ||| (cp >>> ((12 : Int32) &&& 31))).toInt8.toInt32))]) (rest := []) hown (hw _ (List.mem_of_getElem? (i := 10) rfl)) (hw _ (List.mem_of_getElem? (i := 11) rfl)) (hw _ (List.mem_of_getElem? (i := 4) rfl)) (hw _ (List.mem_of_getElem? (i := 12) rfl)) (by decide) (own_bk (rm_len l Z a0 hw (((224 : Int32) ||| (cp >>> ((12 : Int32) &&& 31))).toInt8.toInt32) h81 n0 ) hZ (hw _ (List.mem_of_getElem? (i := 12) rfl)) (hw _ (List.mem_of_getElem? (i := 4) rfl)) (by decide) (by decide)) e89 (g := (mkF m 319 #[.val (.int p1), .val (.int p2), .val (.int p3), .val (.int p4), .val (.int (2 : Int32)), .val (.int (p2 &&& (2147483647 : Int32))), .val (.int cp), .val (.int off), .val (.int fb), .val (.ref b70), .val (.int (3 : Int32)), .val (.int (1 : Int32))] [(.int (((224 : Int32) ||| (cp >>> ((12 : Int32) &&& 31))).toInt8.toInt32))])) rfl (by rw [hml]; rfl) (lenOf pd_2 rfl) rfl (by show 2 * 0 + _ ≤ _; exact Nat.le_of_eq rfl) (hb hby at_319) (by decide) (by decide) (fun v90 T90 h90 L90 X90 e90 q90 => ?_)
      obtain ⟨rfl, M90, s90⟩ := q90
      replace e90 : T90.heap = h81 := e90.trans s90
      have N90 := Fr.app N89 M90
      refine own_go (fun t k => XS.iload X90.here hx rfl (hb hby at_322) rfl  k) ?_
      have hc324 : (own_len8 (((224 : Int32) ||| (cp >>> ((12 : Int32) &&& 31))).toInt8.toInt32)) = (3 : Int32) := (own_m3 hcp.1.1 hcp.1.2)
      refine own_go (fun t k => XS.icmpYes X90.here hx rfl (pc0 := 324) (pc' := 329) rfl (hb hby at_324) rfl (teq hc324).1 (by decide) (by decide) k) ?_
      refine own_go (fun t k => XS.iload X90.here hx rfl (hb hby at_329) rfl  k) ?_
      refine own_go (fun t k => XS.iconst X90.here hx rfl (hb hby at_331) k) ?_
      show own_Run p e below Φ (T90.setTop (mkF m 332 #[.val (.int p1), .val (.int p2), .val (.int p3), .val (.int p4), .val (.int (2 : Int32)), .val (.int (p2 &&& (2147483647 : Int32))), .val (.int cp), .val (.int off), .val (.int fb), .val (.ref b70), .val (.int (3 : Int32)), .val (.int (1 : Int32))] [(.int (1 : Int32)), (.int (3 : Int32))]))
      refine own_go (fun t k => XS.icmpYes X90.here hx rfl (pc0 := 332) (pc' := 352) rfl (hb hby at_332) rfl (feq (by decide : ¬ ((3 : Int32) = (1 : Int32)))).2 (by decide) (by decide) k) ?_
      refine own_go (fun t k => XS.aload X90.here hx rfl (hb hby at_352) rfl rfl  k) ?_
      refine own_go (fun t k => XS.iload X90.here hx rfl (hb hby at_354) rfl  k) ?_
      refine own_go (fun t k => XS.iload X90.here hx rfl (hb hby at_356) rfl  k) ?_
      have F91 : Old Z n0 h81 := ((((((((((O0.ext E70).wr W72 (Nat.le_trans Z0 (Nat.le_of_eq g70.symm))).wr W73 (Nat.le_trans Z0 (Nat.le_of_eq g70.symm))).wr W74 (Nat.le_trans Z0 (Nat.le_of_eq g70.symm))).wr W75 (Nat.le_trans Z0 (Nat.le_of_eq g70.symm))).wr W76 (Nat.le_trans Z0 (Nat.le_of_eq g70.symm))).wr W77 (Nat.le_trans Z0 (Nat.le_of_eq g70.symm))).wr W78 (Nat.le_trans Z0 (Nat.le_of_eq g70.symm))).wr W79 (Nat.le_trans Z0 (Nat.le_of_eq g70.symm))).keep K81 (allS (Nat.le_trans Z0 (Nat.le_of_eq g70.symm)) all0))
      have F92 : Arv Z h81 w1 kw .int (5 : Int32) [(.int (0 : Int32)), (.int (0 : Int32)), (.int (128 : Int32)), (.int (2048 : Int32)), (.int (65536 : Int32))] (.int (0 : Int32)) := V0.ext F91.2
      refine own_callS X90 hx hZ (y := (⟨"com/example/templum/templum/validation/Utf8", "decode", "([BII)I"⟩ : MethodName)) (W := 0) (argsL := [(.ref b70), (.int off), (.int (3 : Int32))]) (rest := []) hown (hw _ (List.mem_of_getElem? (i := 16) rfl)) (hw _ (List.mem_of_getElem? (i := 17) rfl)) (hw _ (List.mem_of_getElem? (i := 4) rfl)) (hw _ (List.mem_of_getElem? (i := 18) rfl)) (by decide) (own_bk (rm_dec3 l Z a0 hw b70 off k70 (own_v3 fb off (((224 : Int32) ||| (cp >>> ((12 : Int32) &&& 31))).toInt8.toInt32) (((128 : Int32) ||| ((cp >>> ((6 : Int32) &&& 31)) &&& (63 : Int32))).toInt8.toInt32) (((128 : Int32) ||| (cp &&& (63 : Int32))).toInt8.toInt32)) (0 : Int32) (((224 : Int32) ||| (cp >>> ((12 : Int32) &&& 31))).toInt8.toInt32) (((128 : Int32) ||| ((cp >>> ((6 : Int32) &&& 31)) &&& (63 : Int32))).toInt8.toInt32) (((128 : Int32) ||| (cp &&& (63 : Int32))).toInt8.toInt32) w1 kw h81 n0 P81_0 F91 S0 F92 (own_o0 hoff) (own_g30 hoff) (own_o1 hoff) (own_g31 hoff) (own_o2 hoff) (own_g32 hoff)) hZ (hw _ (List.mem_of_getElem? (i := 18) rfl)) (hw _ (List.mem_of_getElem? (i := 4) rfl)) (by decide) (by decide)) e90 (g := (mkF m 358 #[.val (.int p1), .val (.int p2), .val (.int p3), .val (.int p4), .val (.int (2 : Int32)), .val (.int (p2 &&& (2147483647 : Int32))), .val (.int cp), .val (.int off), .val (.int fb), .val (.ref b70), .val (.int (3 : Int32)), .val (.int (1 : Int32))] [(.int (3 : Int32)), (.int off), (.ref b70)])) rfl (by rw [hml]; rfl) (lenOf pd_3 rfl) rfl (by show 2 * 0 + _ ≤ _; exact Nat.le_of_eq rfl) (hb hby at_358) (by decide) (by decide) (fun v93 T93 h93 L93 X93 e93 q93 => ?_)
      obtain ⟨rfl, M93, s93⟩ := q93
      replace e93 : T93.heap = h81 := e93.trans s93
      have N93 := Fr.app N90 M93
      show own_Run p e below Φ (T93.setTop (mkF m 361 #[.val (.int p1), .val (.int p2), .val (.int p3), .val (.int p4), .val (.int (2 : Int32)), .val (.int (p2 &&& (2147483647 : Int32))), .val (.int cp), .val (.int off), .val (.int fb), .val (.ref b70), .val (.int (3 : Int32)), .val (.int (1 : Int32))] [(.int (own_dec3 (((224 : Int32) ||| (cp >>> ((12 : Int32) &&& 31))).toInt8.toInt32) (((128 : Int32) ||| ((cp >>> ((6 : Int32) &&& 31)) &&& (63 : Int32))).toInt8.toInt32) (((128 : Int32) ||| (cp &&& (63 : Int32))).toInt8.toInt32)))]))
      refine own_go (fun t k => XS.iload X93.here hx rfl (hb hby at_361) rfl  k) ?_
      have hc363 : (own_dec3 (((224 : Int32) ||| (cp >>> ((12 : Int32) &&& 31))).toInt8.toInt32) (((128 : Int32) ||| ((cp >>> ((6 : Int32) &&& 31)) &&& (63 : Int32))).toInt8.toInt32) (((128 : Int32) ||| (cp &&& (63 : Int32))).toInt8.toInt32)) = cp := (own_d3 hcp.1.1 hcp.1.2 hcp.2)
      refine own_go (fun t k => XS.icmpNo X93.here hx rfl (hb hby at_363) rfl (teq hc363).2 k) ?_
      refine own_go (fun t k => XS.iconst X93.here hx rfl (hb hby at_366) k) ?_
      refine own_go (fun t k => XS.goto X93.here hx rfl (pc0 := 367) (pc' := 371) rfl (hb hby at_367) (by decide) (by decide) k) ?_
      subst hΦ
      exact own_retN X93 hx (t := .boolean) Bd.returns (by simp) hlk (hb hby at_371) e93 ⟨rfl, N93⟩ (by decide) (by decide)
  · rw [e1]
    show own_Run p e below Φ (s₁.setTop (mkF m 11 #[.val (.int p1), .val (.int p2), .val (.int p3), .val (.int p4), .val (.int (3 : Int32)), .val (.int (p2 &&& (2147483647 : Int32))), .unset, .unset, .unset, .unset, .unset, .unset] []))
    refine own_go (fun t k => XS.iload X0.here hx rfl (hb hby at_11) rfl  k) ?_
    show own_Run p e below Φ (s₁.setTop (mkF m 13 #[.val (.int p1), .val (.int p2), .val (.int p3), .val (.int p4), .val (.int (3 : Int32)), .val (.int (p2 &&& (2147483647 : Int32))), .unset, .unset, .unset, .unset, .unset, .unset] [(.int (3 : Int32))]))
    refine own_go (fun t k => XS.ifYes X0.here hx rfl (pc0 := 13) (pc' := 25) rfl (hb hby at_13) rfl ((if0 _ _).trans (feq (by decide : ¬ ((3 : Int32) = (0 : Int32)))).2) (by decide) (by decide) k) ?_
    refine own_go (fun t k => XS.iload X0.here hx rfl (hb hby at_25) rfl  k) ?_
    refine own_go (fun t k => XS.iconst X0.here hx rfl (hb hby at_27) k) ?_
    refine own_go (fun t k => XS.icmpYes X0.here hx rfl (pc0 := 28) (pc' := 46) rfl (hb hby at_28) rfl (feq (by decide : ¬ ((3 : Int32) = (1 : Int32)))).2 (by decide) (by decide) k) ?_
    refine own_go (fun t k => XS.iload X0.here hx rfl (hb hby at_46) rfl  k) ?_
    show own_Run p e below Φ (s₁.setTop (mkF m 48 #[.val (.int p1), .val (.int p2), .val (.int p3), .val (.int p4), .val (.int (3 : Int32)), .val (.int (p2 &&& (2147483647 : Int32))), .unset, .unset, .unset, .unset, .unset, .unset] [(.int (3 : Int32))]))
    refine own_go (fun t k => XS.iconst X0.here hx rfl (hb hby at_48) k) ?_
    refine own_go (fun t k => XS.icmpYes X0.here hx rfl (pc0 := 49) (pc' := 81) rfl (hb hby at_49) rfl (feq (by decide : ¬ ((3 : Int32) = (2 : Int32)))).2 (by decide) (by decide) k) ?_
    refine own_go (X0.ldcInt hx hown (mvT hZ (hw _ (List.mem_of_getElem? (i := 13) rfl))) (g := (mkF m 81 #[.val (.int p1), .val (.int p2), .val (.int p3), .val (.int p4), .val (.int (3 : Int32)), .val (.int (p2 &&& (2147483647 : Int32))), .unset, .unset, .unset, .unset, .unset, .unset] [])) rfl (hb hby at_81)) ?_
    refine own_go (fun t k => XS.iload X0.here hx rfl (hb hby at_83) rfl  k) ?_
    refine own_go (X0.ldcInt hx hown (mvT hZ (hw _ (List.mem_of_getElem? (i := 14) rfl))) (g := (mkF m 85 #[.val (.int p1), .val (.int p2), .val (.int p3), .val (.int p4), .val (.int (3 : Int32)), .val (.int (p2 &&& (2147483647 : Int32))), .unset, .unset, .unset, .unset, .unset, .unset] [(.int (p2 &&& (2147483647 : Int32))), (.int (65536 : Int32))])) rfl (hb hby at_85)) ?_
    show own_Run p e below Φ (s₁.setTop (mkF m 87 #[.val (.int p1), .val (.int p2), .val (.int p3), .val (.int p4), .val (.int (3 : Int32)), .val (.int (p2 &&& (2147483647 : Int32))), .unset, .unset, .unset, .unset, .unset, .unset] [(.int (1048576 : Int32)), (.int (p2 &&& (2147483647 : Int32))), (.int (65536 : Int32))]))
    refine own_go (fun t k => Jvm.RoadKit.iremM X0 hx rfl (hb hby at_87) rfl (by decide) k) ?_
    refine own_go (fun t k => XS.iadd X0.here hx rfl (hb hby at_88) rfl k) ?_
    refine own_go (fun t k => XS.istore X0.here hx rfl (hb hby at_89) rfl (l' := #[.val (.int p1), .val (.int p2), .val (.int p3), .val (.int p4), .val (.int (3 : Int32)), .val (.int (p2 &&& (2147483647 : Int32))), .val (.int ((65536 : Int32) + ((p2 &&& (2147483647 : Int32)) % (1048576 : Int32)))), .unset, .unset, .unset, .unset, .unset]) rfl k) ?_
    show own_Run p e below Φ (s₁.setTop (mkF m 91 #[.val (.int p1), .val (.int p2), .val (.int p3), .val (.int p4), .val (.int (3 : Int32)), .val (.int (p2 &&& (2147483647 : Int32))), .val (.int ((65536 : Int32) + ((p2 &&& (2147483647 : Int32)) % (1048576 : Int32)))), .unset, .unset, .unset, .unset, .unset] []))
    have hcp := own_q3 p2
    generalize ecp : ((65536 : Int32) + ((p2 &&& (2147483647 : Int32)) % (1048576 : Int32))) = cp at hcp ⊢
    show own_Run p e below Φ (s₁.setTop (mkF m 91 #[.val (.int p1), .val (.int p2), .val (.int p3), .val (.int p4), .val (.int (3 : Int32)), .val (.int (p2 &&& (2147483647 : Int32))), .val (.int cp), .unset, .unset, .unset, .unset, .unset] []))
    refine own_go (fun t k => XS.iloadN X0.here hx rfl (hb hby at_91) rfl  k) ?_
    refine own_go (fun t k => XS.iconst X0.here hx rfl (hb hby at_92) k) ?_
    refine own_go (fun t k => XS.iand X0.here hx rfl (hb hby at_93) rfl k) ?_
    refine own_go (fun t k => XS.istore X0.here hx rfl (hb hby at_94) rfl (l' := #[.val (.int p1), .val (.int p2), .val (.int p3), .val (.int p4), .val (.int (3 : Int32)), .val (.int (p2 &&& (2147483647 : Int32))), .val (.int cp), .val (.int (p3 &&& (3 : Int32))), .unset, .unset, .unset, .unset]) rfl k) ?_
    refine own_go (fun t k => XS.iloadN X0.here hx rfl (hb hby at_96) rfl  k) ?_
    show own_Run p e below Φ (s₁.setTop (mkF m 97 #[.val (.int p1), .val (.int p2), .val (.int p3), .val (.int p4), .val (.int (3 : Int32)), .val (.int (p2 &&& (2147483647 : Int32))), .val (.int cp), .val (.int (p3 &&& (3 : Int32))), .unset, .unset, .unset, .unset] [(.int p4)]))
    refine own_go (fun t k => XS.i2b X0.here hx rfl (hb hby at_97) rfl k) ?_
    refine own_go (fun t k => XS.istore X0.here hx rfl (hb hby at_98) rfl (l' := #[.val (.int p1), .val (.int p2), .val (.int p3), .val (.int p4), .val (.int (3 : Int32)), .val (.int (p2 &&& (2147483647 : Int32))), .val (.int cp), .val (.int (p3 &&& (3 : Int32))), .val (.int (p4.toInt8.toInt32)), .unset, .unset, .unset]) rfl k) ?_
    show own_Run p e below Φ (s₁.setTop (mkF m 100 #[.val (.int p1), .val (.int p2), .val (.int p3), .val (.int p4), .val (.int (3 : Int32)), .val (.int (p2 &&& (2147483647 : Int32))), .val (.int cp), .val (.int (p3 &&& (3 : Int32))), .val (.int (p4.toInt8.toInt32)), .unset, .unset, .unset] []))
    have hoff := own_and3 p3
    generalize eoff : (p3 &&& (3 : Int32)) = off at hoff ⊢
    have hfb := own_b8 p4
    generalize efb : p4.toInt8.toInt32 = fb at hfb ⊢
    show own_Run p e below Φ (s₁.setTop (mkF m 100 #[.val (.int p1), .val (.int p2), .val (.int p3), .val (.int p4), .val (.int (3 : Int32)), .val (.int (p2 &&& (2147483647 : Int32))), .val (.int cp), .val (.int off), .val (.int fb), .unset, .unset, .unset] []))
    refine own_go (fun t k => XS.bipush X0.here hx rfl (hb hby at_100) k) ?_
    refine own_newP X0 hx hZ (hw _ (List.mem_of_getElem? (i := 1) rfl)) e0 (g := (mkF m 102 #[.val (.int p1), .val (.int p2), .val (.int p3), .val (.int p4), .val (.int (3 : Int32)), .val (.int (p2 &&& (2147483647 : Int32))), .val (.int cp), .val (.int off), .val (.int fb), .unset, .unset, .unset] [(.int (8 : Int32))])) rfl (hb hby at_102) rfl (by decide) 8 (by decide) (by decide) (by decide) (by decide) 8 (fun T94 h94 k94 b94 X94 e94 E94 g94 V94 => ?_)
    replace V94 : Arv Z h94 b94 k94 .byte (8 : Int32) [(.int (0 : Int32)), (.int (0 : Int32)), (.int (0 : Int32)), (.int (0 : Int32)), (.int (0 : Int32)), (.int (0 : Int32)), (.int (0 : Int32)), (.int (0 : Int32))] (.int (0 : Int32)) := V94
    refine own_go (fun t k => XS.astore X94.here hx rfl (hb hby at_104) rfl rfl (l' := #[.val (.int p1), .val (.int p2), .val (.int p3), .val (.int p4), .val (.int (3 : Int32)), .val (.int (p2 &&& (2147483647 : Int32))), .val (.int cp), .val (.int off), .val (.int fb), .val (.ref b94), .unset, .unset]) rfl k) ?_
    refine own_go (fun t k => XS.aload X94.here hx rfl (hb hby at_106) rfl rfl  k) ?_
    refine own_go (fun t k => XS.iconst X94.here hx rfl (hb hby at_108) k) ?_
    show own_Run p e below Φ (T94.setTop (mkF m 109 #[.val (.int p1), .val (.int p2), .val (.int p3), .val (.int p4), .val (.int (3 : Int32)), .val (.int (p2 &&& (2147483647 : Int32))), .val (.int cp), .val (.int off), .val (.int fb), .val (.ref b94), .unset, .unset] [(.int (0 : Int32)), (.ref b94)]))
    refine own_go (fun t k => XS.iload X94.here hx rfl (hb hby at_109) rfl  k) ?_
    refine own_bastore X94 hx hZ e94 V94 (j := (0 : Int32)) ⟨by decide, by decide⟩ 0 rfl (Nat.le_of_ble_eq_true rfl) (g := (mkF m 111 #[.val (.int p1), .val (.int p2), .val (.int p3), .val (.int p4), .val (.int (3 : Int32)), .val (.int (p2 &&& (2147483647 : Int32))), .val (.int cp), .val (.int off), .val (.int fb), .val (.ref b94), .unset, .unset] [(.int fb), (.int (0 : Int32)), (.ref b94)])) rfl rfl (hb hby at_111) (fun T96 h96 X96 e96 W96 V96 => ?_)
    replace V96 : Arv Z h96 b94 k94 .byte (8 : Int32) [(.int (fb.toInt8.toInt32)), (.int (0 : Int32)), (.int (0 : Int32)), (.int (0 : Int32)), (.int (0 : Int32)), (.int (0 : Int32)), (.int (0 : Int32)), (.int (0 : Int32))] (.int (0 : Int32)) := V96
    have N96 := Fr.snoc X96 N0 (Nat.le_trans Z0 (Nat.le_of_eq g94.symm))
    refine own_go (fun t k => XS.aload X96.here hx rfl (hb hby at_112) rfl rfl  k) ?_
    refine own_go (fun t k => XS.iconst X96.here hx rfl (hb hby at_114) k) ?_
    refine own_go (fun t k => XS.iload X96.here hx rfl (hb hby at_115) rfl  k) ?_
    show own_Run p e below Φ (T96.setTop (mkF m 117 #[.val (.int p1), .val (.int p2), .val (.int p3), .val (.int p4), .val (.int (3 : Int32)), .val (.int (p2 &&& (2147483647 : Int32))), .val (.int cp), .val (.int off), .val (.int fb), .val (.ref b94), .unset, .unset] [(.int fb), (.int (1 : Int32)), (.ref b94)]))
    refine own_bastore X96 hx hZ e96 V96 (j := (1 : Int32)) ⟨by decide, by decide⟩ 1 rfl (Nat.le_of_ble_eq_true rfl) (g := (mkF m 117 #[.val (.int p1), .val (.int p2), .val (.int p3), .val (.int p4), .val (.int (3 : Int32)), .val (.int (p2 &&& (2147483647 : Int32))), .val (.int cp), .val (.int off), .val (.int fb), .val (.ref b94), .unset, .unset] [(.int fb), (.int (1 : Int32)), (.ref b94)])) rfl rfl (hb hby at_117) (fun T97 h97 X97 e97 W97 V97 => ?_)
    replace V97 : Arv Z h97 b94 k94 .byte (8 : Int32) [(.int (fb.toInt8.toInt32)), (.int (fb.toInt8.toInt32)), (.int (0 : Int32)), (.int (0 : Int32)), (.int (0 : Int32)), (.int (0 : Int32)), (.int (0 : Int32)), (.int (0 : Int32))] (.int (0 : Int32)) := V97
    have N97 := Fr.snoc X97 N96 (Nat.le_trans Z0 (Nat.le_of_eq g94.symm))
    refine own_go (fun t k => XS.aload X97.here hx rfl (hb hby at_118) rfl rfl  k) ?_
    refine own_go (fun t k => XS.iconst X97.here hx rfl (hb hby at_120) k) ?_
    refine own_go (fun t k => XS.iload X97.here hx rfl (hb hby at_121) rfl  k) ?_
    refine own_bastore X97 hx hZ e97 V97 (j := (2 : Int32)) ⟨by decide, by decide⟩ 2 rfl (Nat.le_of_ble_eq_true rfl) (g := (mkF m 123 #[.val (.int p1), .val (.int p2), .val (.int p3), .val (.int p4), .val (.int (3 : Int32)), .val (.int (p2 &&& (2147483647 : Int32))), .val (.int cp), .val (.int off), .val (.int fb), .val (.ref b94), .unset, .unset] [(.int fb), (.int (2 : Int32)), (.ref b94)])) rfl rfl (hb hby at_123) (fun T98 h98 X98 e98 W98 V98 => ?_)
    replace V98 : Arv Z h98 b94 k94 .byte (8 : Int32) [(.int (fb.toInt8.toInt32)), (.int (fb.toInt8.toInt32)), (.int (fb.toInt8.toInt32)), (.int (0 : Int32)), (.int (0 : Int32)), (.int (0 : Int32)), (.int (0 : Int32)), (.int (0 : Int32))] (.int (0 : Int32)) := V98
    have N98 := Fr.snoc X98 N97 (Nat.le_trans Z0 (Nat.le_of_eq g94.symm))
    show own_Run p e below Φ (T98.setTop (mkF m 124 #[.val (.int p1), .val (.int p2), .val (.int p3), .val (.int p4), .val (.int (3 : Int32)), .val (.int (p2 &&& (2147483647 : Int32))), .val (.int cp), .val (.int off), .val (.int fb), .val (.ref b94), .unset, .unset] []))
    refine own_go (fun t k => XS.aload X98.here hx rfl (hb hby at_124) rfl rfl  k) ?_
    refine own_go (fun t k => XS.iconst X98.here hx rfl (hb hby at_126) k) ?_
    refine own_go (fun t k => XS.iload X98.here hx rfl (hb hby at_127) rfl  k) ?_
    refine own_bastore X98 hx hZ e98 V98 (j := (3 : Int32)) ⟨by decide, by decide⟩ 3 rfl (Nat.le_of_ble_eq_true rfl) (g := (mkF m 129 #[.val (.int p1), .val (.int p2), .val (.int p3), .val (.int p4), .val (.int (3 : Int32)), .val (.int (p2 &&& (2147483647 : Int32))), .val (.int cp), .val (.int off), .val (.int fb), .val (.ref b94), .unset, .unset] [(.int fb), (.int (3 : Int32)), (.ref b94)])) rfl rfl (hb hby at_129) (fun T99 h99 X99 e99 W99 V99 => ?_)
    replace V99 : Arv Z h99 b94 k94 .byte (8 : Int32) [(.int (fb.toInt8.toInt32)), (.int (fb.toInt8.toInt32)), (.int (fb.toInt8.toInt32)), (.int (fb.toInt8.toInt32)), (.int (0 : Int32)), (.int (0 : Int32)), (.int (0 : Int32)), (.int (0 : Int32))] (.int (0 : Int32)) := V99
    have N99 := Fr.snoc X99 N98 (Nat.le_trans Z0 (Nat.le_of_eq g94.symm))
    refine own_go (fun t k => XS.aload X99.here hx rfl (hb hby at_130) rfl rfl  k) ?_
    show own_Run p e below Φ (T99.setTop (mkF m 132 #[.val (.int p1), .val (.int p2), .val (.int p3), .val (.int p4), .val (.int (3 : Int32)), .val (.int (p2 &&& (2147483647 : Int32))), .val (.int cp), .val (.int off), .val (.int fb), .val (.ref b94), .unset, .unset] [(.ref b94)]))
    refine own_go (fun t k => XS.iconst X99.here hx rfl (hb hby at_132) k) ?_
    refine own_go (fun t k => XS.iload X99.here hx rfl (hb hby at_133) rfl  k) ?_
    refine own_bastore X99 hx hZ e99 V99 (j := (4 : Int32)) ⟨by decide, by decide⟩ 4 rfl (Nat.le_of_ble_eq_true rfl) (g := (mkF m 135 #[.val (.int p1), .val (.int p2), .val (.int p3), .val (.int p4), .val (.int (3 : Int32)), .val (.int (p2 &&& (2147483647 : Int32))), .val (.int cp), .val (.int off), .val (.int fb), .val (.ref b94), .unset, .unset] [(.int fb), (.int (4 : Int32)), (.ref b94)])) rfl rfl (hb hby at_135) (fun T100 h100 X100 e100 W100 V100 => ?_)
    replace V100 : Arv Z h100 b94 k94 .byte (8 : Int32) [(.int (fb.toInt8.toInt32)), (.int (fb.toInt8.toInt32)), (.int (fb.toInt8.toInt32)), (.int (fb.toInt8.toInt32)), (.int (fb.toInt8.toInt32)), (.int (0 : Int32)), (.int (0 : Int32)), (.int (0 : Int32))] (.int (0 : Int32)) := V100
    have N100 := Fr.snoc X100 N99 (Nat.le_trans Z0 (Nat.le_of_eq g94.symm))
    refine own_go (fun t k => XS.aload X100.here hx rfl (hb hby at_136) rfl rfl  k) ?_
    refine own_go (fun t k => XS.iconst X100.here hx rfl (hb hby at_138) k) ?_
    show own_Run p e below Φ (T100.setTop (mkF m 139 #[.val (.int p1), .val (.int p2), .val (.int p3), .val (.int p4), .val (.int (3 : Int32)), .val (.int (p2 &&& (2147483647 : Int32))), .val (.int cp), .val (.int off), .val (.int fb), .val (.ref b94), .unset, .unset] [(.int (5 : Int32)), (.ref b94)]))
    refine own_go (fun t k => XS.iload X100.here hx rfl (hb hby at_139) rfl  k) ?_
    refine own_bastore X100 hx hZ e100 V100 (j := (5 : Int32)) ⟨by decide, by decide⟩ 5 rfl (Nat.le_of_ble_eq_true rfl) (g := (mkF m 141 #[.val (.int p1), .val (.int p2), .val (.int p3), .val (.int p4), .val (.int (3 : Int32)), .val (.int (p2 &&& (2147483647 : Int32))), .val (.int cp), .val (.int off), .val (.int fb), .val (.ref b94), .unset, .unset] [(.int fb), (.int (5 : Int32)), (.ref b94)])) rfl rfl (hb hby at_141) (fun T101 h101 X101 e101 W101 V101 => ?_)
    replace V101 : Arv Z h101 b94 k94 .byte (8 : Int32) [(.int (fb.toInt8.toInt32)), (.int (fb.toInt8.toInt32)), (.int (fb.toInt8.toInt32)), (.int (fb.toInt8.toInt32)), (.int (fb.toInt8.toInt32)), (.int (fb.toInt8.toInt32)), (.int (0 : Int32)), (.int (0 : Int32))] (.int (0 : Int32)) := V101
    have N101 := Fr.snoc X101 N100 (Nat.le_trans Z0 (Nat.le_of_eq g94.symm))
    refine own_go (fun t k => XS.aload X101.here hx rfl (hb hby at_142) rfl rfl  k) ?_
    refine own_go (fun t k => XS.bipush X101.here hx rfl (hb hby at_144) k) ?_
    refine own_go (fun t k => XS.iload X101.here hx rfl (hb hby at_146) rfl  k) ?_
    show own_Run p e below Φ (T101.setTop (mkF m 148 #[.val (.int p1), .val (.int p2), .val (.int p3), .val (.int p4), .val (.int (3 : Int32)), .val (.int (p2 &&& (2147483647 : Int32))), .val (.int cp), .val (.int off), .val (.int fb), .val (.ref b94), .unset, .unset] [(.int fb), (.int (6 : Int32)), (.ref b94)]))
    refine own_bastore X101 hx hZ e101 V101 (j := (6 : Int32)) ⟨by decide, by decide⟩ 6 rfl (Nat.le_of_ble_eq_true rfl) (g := (mkF m 148 #[.val (.int p1), .val (.int p2), .val (.int p3), .val (.int p4), .val (.int (3 : Int32)), .val (.int (p2 &&& (2147483647 : Int32))), .val (.int cp), .val (.int off), .val (.int fb), .val (.ref b94), .unset, .unset] [(.int fb), (.int (6 : Int32)), (.ref b94)])) rfl rfl (hb hby at_148) (fun T102 h102 X102 e102 W102 V102 => ?_)
    replace V102 : Arv Z h102 b94 k94 .byte (8 : Int32) [(.int (fb.toInt8.toInt32)), (.int (fb.toInt8.toInt32)), (.int (fb.toInt8.toInt32)), (.int (fb.toInt8.toInt32)), (.int (fb.toInt8.toInt32)), (.int (fb.toInt8.toInt32)), (.int (fb.toInt8.toInt32)), (.int (0 : Int32))] (.int (0 : Int32)) := V102
    have N102 := Fr.snoc X102 N101 (Nat.le_trans Z0 (Nat.le_of_eq g94.symm))
    refine own_go (fun t k => XS.aload X102.here hx rfl (hb hby at_149) rfl rfl  k) ?_
    refine own_go (fun t k => XS.bipush X102.here hx rfl (hb hby at_151) k) ?_
    refine own_go (fun t k => XS.iload X102.here hx rfl (hb hby at_153) rfl  k) ?_
    refine own_bastore X102 hx hZ e102 V102 (j := (7 : Int32)) ⟨by decide, by decide⟩ 7 rfl (Nat.le_of_ble_eq_true rfl) (g := (mkF m 155 #[.val (.int p1), .val (.int p2), .val (.int p3), .val (.int p4), .val (.int (3 : Int32)), .val (.int (p2 &&& (2147483647 : Int32))), .val (.int cp), .val (.int off), .val (.int fb), .val (.ref b94), .unset, .unset] [(.int fb), (.int (7 : Int32)), (.ref b94)])) rfl rfl (hb hby at_155) (fun T103 h103 X103 e103 W103 V103 => ?_)
    replace V103 : Arv Z h103 b94 k94 .byte (8 : Int32) [(.int (fb.toInt8.toInt32)), (.int (fb.toInt8.toInt32)), (.int (fb.toInt8.toInt32)), (.int (fb.toInt8.toInt32)), (.int (fb.toInt8.toInt32)), (.int (fb.toInt8.toInt32)), (.int (fb.toInt8.toInt32)), (.int (fb.toInt8.toInt32))] (.int (0 : Int32)) := V103
    have N103 := Fr.snoc X103 N102 (Nat.le_trans Z0 (Nat.le_of_eq g94.symm))
    show own_Run p e below Φ (T103.setTop (mkF m 156 #[.val (.int p1), .val (.int p2), .val (.int p3), .val (.int p4), .val (.int (3 : Int32)), .val (.int (p2 &&& (2147483647 : Int32))), .val (.int cp), .val (.int off), .val (.int fb), .val (.ref b94), .unset, .unset] []))
    rw [hfb] at V103
    have Q104 : Arv Z h103 b94 k94 .byte (8 : Int32) (own_z fb) (.int (0 : Int32)) := V103
    refine own_go (fun t k => XS.iload X103.here hx rfl (hb hby at_156) rfl  k) ?_
    refine own_go (fun t k => XS.aload X103.here hx rfl (hb hby at_158) rfl rfl  k) ?_
    refine own_go (fun t k => XS.iload X103.here hx rfl (hb hby at_160) rfl  k) ?_
    refine own_callS X103 hx hZ (y := (⟨"com/example/templum/templum/validation/Utf8", "encode", "(I[BI)I"⟩ : MethodName)) (W := 0) (argsL := [(.int cp), (.ref b94), (.int off)]) (rest := []) hown (hw _ (List.mem_of_getElem? (i := 2) rfl)) (hw _ (List.mem_of_getElem? (i := 3) rfl)) (hw _ (List.mem_of_getElem? (i := 4) rfl)) (hw _ (List.mem_of_getElem? (i := 5) rfl)) (by decide) (own_bk (rm_enc4 l Z a0 hw cp b94 off k94 fb (0 : Int32) h103 n0 Q104 (Nat.le_trans Z0 (Nat.le_of_eq g94.symm)) hoff hcp.1 hcp.2) hZ (hw _ (List.mem_of_getElem? (i := 5) rfl)) (hw _ (List.mem_of_getElem? (i := 4) rfl)) (by decide) (by decide)) e103 (g := (mkF m 162 #[.val (.int p1), .val (.int p2), .val (.int p3), .val (.int p4), .val (.int (3 : Int32)), .val (.int (p2 &&& (2147483647 : Int32))), .val (.int cp), .val (.int off), .val (.int fb), .val (.ref b94), .unset, .unset] [(.int off), (.ref b94), (.int cp)])) rfl (by rw [hml]; rfl) (lenOf pd_0 rfl) rfl (by show 2 * 0 + _ ≤ _; exact Nat.le_of_eq rfl) (hb hby at_162) (by decide) (by decide) (fun v105 T105 h105 L105 X105 e105 q105 => ?_)
    obtain ⟨rfl, M105, K105, P105_0⟩ := q105
    have N105 := Fr.app N103 M105
    refine own_go (fun t k => XS.istore X105.here hx rfl (hb hby at_165) rfl (l' := #[.val (.int p1), .val (.int p2), .val (.int p3), .val (.int p4), .val (.int (3 : Int32)), .val (.int (p2 &&& (2147483647 : Int32))), .val (.int cp), .val (.int off), .val (.int fb), .val (.ref b94), .val (.int (4 : Int32)), .unset]) rfl k) ?_
    show own_Run p e below Φ (T105.setTop (mkF m 167 #[.val (.int p1), .val (.int p2), .val (.int p3), .val (.int p4), .val (.int (3 : Int32)), .val (.int (p2 &&& (2147483647 : Int32))), .val (.int cp), .val (.int off), .val (.int fb), .val (.ref b94), .val (.int (4 : Int32)), .unset] []))
    refine own_go (fun t k => XS.iload X105.here hx rfl (hb hby at_167) rfl  k) ?_
    refine own_go (fun t k => XS.iload X105.here hx rfl (hb hby at_169) rfl  k) ?_
    refine own_go (fun t k => XS.iconst X105.here hx rfl (hb hby at_171) k) ?_
    refine own_go (fun t k => XS.iadd X105.here hx rfl (hb hby at_172) rfl k) ?_
    show own_Run p e below Φ (T105.setTop (mkF m 173 #[.val (.int p1), .val (.int p2), .val (.int p3), .val (.int p4), .val (.int (3 : Int32)), .val (.int (p2 &&& (2147483647 : Int32))), .val (.int cp), .val (.int off), .val (.int fb), .val (.ref b94), .val (.int (4 : Int32)), .unset] [(.int ((3 : Int32) + (1 : Int32))), (.int (4 : Int32))]))
    rw [show ((3 : Int32) + (1 : Int32)) = (4 : Int32) from by decide]
    show own_Run p e below Φ (T105.setTop (mkF m 173 #[.val (.int p1), .val (.int p2), .val (.int p3), .val (.int p4), .val (.int (3 : Int32)), .val (.int (p2 &&& (2147483647 : Int32))), .val (.int cp), .val (.int off), .val (.int fb), .val (.ref b94), .val (.int (4 : Int32)), .unset] [(.int (4 : Int32)), (.int (4 : Int32))]))
    refine own_go (fun t k => XS.icmpYes X105.here hx rfl (pc0 := 173) (pc' := 178) rfl (hb hby at_173) rfl (teq (rfl : (4 : Int32) = (4 : Int32))).1 (by decide) (by decide) k) ?_
    refine own_go (fun t k => XS.aload X105.here hx rfl (hb hby at_178) rfl rfl  k) ?_
    refine own_go (fun t k => XS.iconst X105.here hx rfl (hb hby at_180) k) ?_
    refine own_go (fun t k => XS.iload X105.here hx rfl (hb hby at_181) rfl  k) ?_
    refine own_go (fun t k => XS.iload X105.here hx rfl (hb hby at_183) rfl  k) ?_
    show own_Run p e below Φ (T105.setTop (mkF m 185 #[.val (.int p1), .val (.int p2), .val (.int p3), .val (.int p4), .val (.int (3 : Int32)), .val (.int (p2 &&& (2147483647 : Int32))), .val (.int cp), .val (.int off), .val (.int fb), .val (.ref b94), .val (.int (4 : Int32)), .unset] [(.int (4 : Int32)), (.int off), (.int (0 : Int32)), (.ref b94)]))
    refine own_go (fun t k => XS.iload X105.here hx rfl (hb hby at_185) rfl  k) ?_
    refine own_callS X105 hx hZ (y := (⟨"com/example/templum/templum/validation/Utf8EncodePinLaw", "kept", "([BIIIB)Z"⟩ : MethodName)) (W := 0) (argsL := [(.ref b94), (.int (0 : Int32)), (.int off), (.int (4 : Int32)), (.int fb)]) (rest := []) hown (hw _ (List.mem_of_getElem? (i := 6) rfl)) (hw _ (List.mem_of_getElem? (i := 7) rfl)) (hw _ (List.mem_of_getElem? (i := 8) rfl)) (hw _ (List.mem_of_getElem? (i := 9) rfl)) (by decide) (own_bk (rm_kept l Z a0 hw b94 (0 : Int32) off (4 : Int32) fb k94 (own_v4 fb off (((240 : Int32) ||| (cp >>> ((18 : Int32) &&& 31))).toInt8.toInt32) (((128 : Int32) ||| ((cp >>> ((12 : Int32) &&& 31)) &&& (63 : Int32))).toInt8.toInt32) (((128 : Int32) ||| ((cp >>> ((6 : Int32) &&& 31)) &&& (63 : Int32))).toInt8.toInt32) (((128 : Int32) ||| (cp &&& (63 : Int32))).toInt8.toInt32)) (0 : Int32) h105 n0 P105_0 ⟨by decide, by decide⟩ (own_k40 hoff)) hZ (hw _ (List.mem_of_getElem? (i := 9) rfl)) (hw _ (List.mem_of_getElem? (i := 8) rfl)) (by decide) (by decide)) e105 (g := (mkF m 187 #[.val (.int p1), .val (.int p2), .val (.int p3), .val (.int p4), .val (.int (3 : Int32)), .val (.int (p2 &&& (2147483647 : Int32))), .val (.int cp), .val (.int off), .val (.int fb), .val (.ref b94), .val (.int (4 : Int32)), .unset] [(.int fb), (.int (4 : Int32)), (.int off), (.int (0 : Int32)), (.ref b94)])) rfl (by rw [hml]; rfl) (lenOf pd_1 rfl) rfl (by show 2 * 0 + _ ≤ _; exact Nat.le_of_eq rfl) (hb hby at_187) (by decide) (by decide) (fun v106 T106 h106 L106 X106 e106 q106 => ?_)
    obtain ⟨rfl, M106, s106⟩ := q106
    replace e106 : T106.heap = h105 := e106.trans s106
    have N106 := Fr.app N105 M106
    refine own_go (fun t k => XS.ifNo X106.here hx rfl (hb hby at_190) rfl ((if0 _ _).trans (feq (by decide : ¬ ((1 : Int32) = (0 : Int32)))).1) k) ?_
    refine own_go (fun t k => XS.aload X106.here hx rfl (hb hby at_193) rfl rfl  k) ?_
    refine own_go (fun t k => XS.iconst X106.here hx rfl (hb hby at_195) k) ?_
    show own_Run p e below Φ (T106.setTop (mkF m 196 #[.val (.int p1), .val (.int p2), .val (.int p3), .val (.int p4), .val (.int (3 : Int32)), .val (.int (p2 &&& (2147483647 : Int32))), .val (.int cp), .val (.int off), .val (.int fb), .val (.ref b94), .val (.int (4 : Int32)), .unset] [(.int (1 : Int32)), (.ref b94)]))
    refine own_go (fun t k => XS.iload X106.here hx rfl (hb hby at_196) rfl  k) ?_
    refine own_go (fun t k => XS.iload X106.here hx rfl (hb hby at_198) rfl  k) ?_
    refine own_go (fun t k => XS.iload X106.here hx rfl (hb hby at_200) rfl  k) ?_
    refine own_callS X106 hx hZ (y := (⟨"com/example/templum/templum/validation/Utf8EncodePinLaw", "kept", "([BIIIB)Z"⟩ : MethodName)) (W := 0) (argsL := [(.ref b94), (.int (1 : Int32)), (.int off), (.int (4 : Int32)), (.int fb)]) (rest := []) hown (hw _ (List.mem_of_getElem? (i := 6) rfl)) (hw _ (List.mem_of_getElem? (i := 7) rfl)) (hw _ (List.mem_of_getElem? (i := 8) rfl)) (hw _ (List.mem_of_getElem? (i := 9) rfl)) (by decide) (own_bk (rm_kept l Z a0 hw b94 (1 : Int32) off (4 : Int32) fb k94 (own_v4 fb off (((240 : Int32) ||| (cp >>> ((18 : Int32) &&& 31))).toInt8.toInt32) (((128 : Int32) ||| ((cp >>> ((12 : Int32) &&& 31)) &&& (63 : Int32))).toInt8.toInt32) (((128 : Int32) ||| ((cp >>> ((6 : Int32) &&& 31)) &&& (63 : Int32))).toInt8.toInt32) (((128 : Int32) ||| (cp &&& (63 : Int32))).toInt8.toInt32)) (0 : Int32) h105 n0 P105_0 ⟨by decide, by decide⟩ (own_k41 hoff)) hZ (hw _ (List.mem_of_getElem? (i := 9) rfl)) (hw _ (List.mem_of_getElem? (i := 8) rfl)) (by decide) (by decide)) e106 (g := (mkF m 202 #[.val (.int p1), .val (.int p2), .val (.int p3), .val (.int p4), .val (.int (3 : Int32)), .val (.int (p2 &&& (2147483647 : Int32))), .val (.int cp), .val (.int off), .val (.int fb), .val (.ref b94), .val (.int (4 : Int32)), .unset] [(.int fb), (.int (4 : Int32)), (.int off), (.int (1 : Int32)), (.ref b94)])) rfl (by rw [hml]; rfl) (lenOf pd_1 rfl) rfl (by show 2 * 0 + _ ≤ _; exact Nat.le_of_eq rfl) (hb hby at_202) (by decide) (by decide) (fun v107 T107 h107 L107 X107 e107 q107 => ?_)
    obtain ⟨rfl, M107, s107⟩ := q107
    replace e107 : T107.heap = h105 := e107.trans s107
    have N107 := Fr.app N106 M107
    refine own_go (fun t k => XS.ifNo X107.here hx rfl (hb hby at_205) rfl ((if0 _ _).trans (feq (by decide : ¬ ((1 : Int32) = (0 : Int32)))).1) k) ?_
    show own_Run p e below Φ (T107.setTop (mkF m 208 #[.val (.int p1), .val (.int p2), .val (.int p3), .val (.int p4), .val (.int (3 : Int32)), .val (.int (p2 &&& (2147483647 : Int32))), .val (.int cp), .val (.int off), .val (.int fb), .val (.ref b94), .val (.int (4 : Int32)), .unset] []))
    refine own_go (fun t k => XS.aload X107.here hx rfl (hb hby at_208) rfl rfl  k) ?_
    refine own_go (fun t k => XS.iconst X107.here hx rfl (hb hby at_210) k) ?_
    refine own_go (fun t k => XS.iload X107.here hx rfl (hb hby at_211) rfl  k) ?_
    refine own_go (fun t k => XS.iload X107.here hx rfl (hb hby at_213) rfl  k) ?_
    refine own_go (fun t k => XS.iload X107.here hx rfl (hb hby at_215) rfl  k) ?_
    show own_Run p e below Φ (T107.setTop (mkF m 217 #[.val (.int p1), .val (.int p2), .val (.int p3), .val (.int p4), .val (.int (3 : Int32)), .val (.int (p2 &&& (2147483647 : Int32))), .val (.int cp), .val (.int off), .val (.int fb), .val (.ref b94), .val (.int (4 : Int32)), .unset] [(.int fb), (.int (4 : Int32)), (.int off), (.int (2 : Int32)), (.ref b94)]))
    refine own_callS X107 hx hZ (y := (⟨"com/example/templum/templum/validation/Utf8EncodePinLaw", "kept", "([BIIIB)Z"⟩ : MethodName)) (W := 0) (argsL := [(.ref b94), (.int (2 : Int32)), (.int off), (.int (4 : Int32)), (.int fb)]) (rest := []) hown (hw _ (List.mem_of_getElem? (i := 6) rfl)) (hw _ (List.mem_of_getElem? (i := 7) rfl)) (hw _ (List.mem_of_getElem? (i := 8) rfl)) (hw _ (List.mem_of_getElem? (i := 9) rfl)) (by decide) (own_bk (rm_kept l Z a0 hw b94 (2 : Int32) off (4 : Int32) fb k94 (own_v4 fb off (((240 : Int32) ||| (cp >>> ((18 : Int32) &&& 31))).toInt8.toInt32) (((128 : Int32) ||| ((cp >>> ((12 : Int32) &&& 31)) &&& (63 : Int32))).toInt8.toInt32) (((128 : Int32) ||| ((cp >>> ((6 : Int32) &&& 31)) &&& (63 : Int32))).toInt8.toInt32) (((128 : Int32) ||| (cp &&& (63 : Int32))).toInt8.toInt32)) (0 : Int32) h105 n0 P105_0 ⟨by decide, by decide⟩ (own_k42 hoff)) hZ (hw _ (List.mem_of_getElem? (i := 9) rfl)) (hw _ (List.mem_of_getElem? (i := 8) rfl)) (by decide) (by decide)) e107 (g := (mkF m 217 #[.val (.int p1), .val (.int p2), .val (.int p3), .val (.int p4), .val (.int (3 : Int32)), .val (.int (p2 &&& (2147483647 : Int32))), .val (.int cp), .val (.int off), .val (.int fb), .val (.ref b94), .val (.int (4 : Int32)), .unset] [(.int fb), (.int (4 : Int32)), (.int off), (.int (2 : Int32)), (.ref b94)])) rfl (by rw [hml]; rfl) (lenOf pd_1 rfl) rfl (by show 2 * 0 + _ ≤ _; exact Nat.le_of_eq rfl) (hb hby at_217) (by decide) (by decide) (fun v108 T108 h108 L108 X108 e108 q108 => ?_)
    obtain ⟨rfl, M108, s108⟩ := q108
    replace e108 : T108.heap = h105 := e108.trans s108
    have N108 := Fr.app N107 M108
    refine own_go (fun t k => XS.ifNo X108.here hx rfl (hb hby at_220) rfl ((if0 _ _).trans (feq (by decide : ¬ ((1 : Int32) = (0 : Int32)))).1) k) ?_
    refine own_go (fun t k => XS.aload X108.here hx rfl (hb hby at_223) rfl rfl  k) ?_
    refine own_go (fun t k => XS.iconst X108.here hx rfl (hb hby at_225) k) ?_
    refine own_go (fun t k => XS.iload X108.here hx rfl (hb hby at_226) rfl  k) ?_
    show own_Run p e below Φ (T108.setTop (mkF m 228 #[.val (.int p1), .val (.int p2), .val (.int p3), .val (.int p4), .val (.int (3 : Int32)), .val (.int (p2 &&& (2147483647 : Int32))), .val (.int cp), .val (.int off), .val (.int fb), .val (.ref b94), .val (.int (4 : Int32)), .unset] [(.int off), (.int (3 : Int32)), (.ref b94)]))
    refine own_go (fun t k => XS.iload X108.here hx rfl (hb hby at_228) rfl  k) ?_
    refine own_go (fun t k => XS.iload X108.here hx rfl (hb hby at_230) rfl  k) ?_
    refine own_callS X108 hx hZ (y := (⟨"com/example/templum/templum/validation/Utf8EncodePinLaw", "kept", "([BIIIB)Z"⟩ : MethodName)) (W := 0) (argsL := [(.ref b94), (.int (3 : Int32)), (.int off), (.int (4 : Int32)), (.int fb)]) (rest := []) hown (hw _ (List.mem_of_getElem? (i := 6) rfl)) (hw _ (List.mem_of_getElem? (i := 7) rfl)) (hw _ (List.mem_of_getElem? (i := 8) rfl)) (hw _ (List.mem_of_getElem? (i := 9) rfl)) (by decide) (own_bk (rm_kept l Z a0 hw b94 (3 : Int32) off (4 : Int32) fb k94 (own_v4 fb off (((240 : Int32) ||| (cp >>> ((18 : Int32) &&& 31))).toInt8.toInt32) (((128 : Int32) ||| ((cp >>> ((12 : Int32) &&& 31)) &&& (63 : Int32))).toInt8.toInt32) (((128 : Int32) ||| ((cp >>> ((6 : Int32) &&& 31)) &&& (63 : Int32))).toInt8.toInt32) (((128 : Int32) ||| (cp &&& (63 : Int32))).toInt8.toInt32)) (0 : Int32) h105 n0 P105_0 ⟨by decide, by decide⟩ (own_k43 hoff)) hZ (hw _ (List.mem_of_getElem? (i := 9) rfl)) (hw _ (List.mem_of_getElem? (i := 8) rfl)) (by decide) (by decide)) e108 (g := (mkF m 232 #[.val (.int p1), .val (.int p2), .val (.int p3), .val (.int p4), .val (.int (3 : Int32)), .val (.int (p2 &&& (2147483647 : Int32))), .val (.int cp), .val (.int off), .val (.int fb), .val (.ref b94), .val (.int (4 : Int32)), .unset] [(.int fb), (.int (4 : Int32)), (.int off), (.int (3 : Int32)), (.ref b94)])) rfl (by rw [hml]; rfl) (lenOf pd_1 rfl) rfl (by show 2 * 0 + _ ≤ _; exact Nat.le_of_eq rfl) (hb hby at_232) (by decide) (by decide) (fun v109 T109 h109 L109 X109 e109 q109 => ?_)
    obtain ⟨rfl, M109, s109⟩ := q109
    replace e109 : T109.heap = h105 := e109.trans s109
    have N109 := Fr.app N108 M109
    refine own_go (fun t k => XS.ifNo X109.here hx rfl (hb hby at_235) rfl ((if0 _ _).trans (feq (by decide : ¬ ((1 : Int32) = (0 : Int32)))).1) k) ?_
    refine own_go (fun t k => XS.aload X109.here hx rfl (hb hby at_238) rfl rfl  k) ?_
    show own_Run p e below Φ (T109.setTop (mkF m 240 #[.val (.int p1), .val (.int p2), .val (.int p3), .val (.int p4), .val (.int (3 : Int32)), .val (.int (p2 &&& (2147483647 : Int32))), .val (.int cp), .val (.int off), .val (.int fb), .val (.ref b94), .val (.int (4 : Int32)), .unset] [(.ref b94)]))
    refine own_go (fun t k => XS.iconst X109.here hx rfl (hb hby at_240) k) ?_
    refine own_go (fun t k => XS.iload X109.here hx rfl (hb hby at_241) rfl  k) ?_
    refine own_go (fun t k => XS.iload X109.here hx rfl (hb hby at_243) rfl  k) ?_
    refine own_go (fun t k => XS.iload X109.here hx rfl (hb hby at_245) rfl  k) ?_
    refine own_callS X109 hx hZ (y := (⟨"com/example/templum/templum/validation/Utf8EncodePinLaw", "kept", "([BIIIB)Z"⟩ : MethodName)) (W := 0) (argsL := [(.ref b94), (.int (4 : Int32)), (.int off), (.int (4 : Int32)), (.int fb)]) (rest := []) hown (hw _ (List.mem_of_getElem? (i := 6) rfl)) (hw _ (List.mem_of_getElem? (i := 7) rfl)) (hw _ (List.mem_of_getElem? (i := 8) rfl)) (hw _ (List.mem_of_getElem? (i := 9) rfl)) (by decide) (own_bk (rm_kept l Z a0 hw b94 (4 : Int32) off (4 : Int32) fb k94 (own_v4 fb off (((240 : Int32) ||| (cp >>> ((18 : Int32) &&& 31))).toInt8.toInt32) (((128 : Int32) ||| ((cp >>> ((12 : Int32) &&& 31)) &&& (63 : Int32))).toInt8.toInt32) (((128 : Int32) ||| ((cp >>> ((6 : Int32) &&& 31)) &&& (63 : Int32))).toInt8.toInt32) (((128 : Int32) ||| (cp &&& (63 : Int32))).toInt8.toInt32)) (0 : Int32) h105 n0 P105_0 ⟨by decide, by decide⟩ (own_k44 hoff)) hZ (hw _ (List.mem_of_getElem? (i := 9) rfl)) (hw _ (List.mem_of_getElem? (i := 8) rfl)) (by decide) (by decide)) e109 (g := (mkF m 247 #[.val (.int p1), .val (.int p2), .val (.int p3), .val (.int p4), .val (.int (3 : Int32)), .val (.int (p2 &&& (2147483647 : Int32))), .val (.int cp), .val (.int off), .val (.int fb), .val (.ref b94), .val (.int (4 : Int32)), .unset] [(.int fb), (.int (4 : Int32)), (.int off), (.int (4 : Int32)), (.ref b94)])) rfl (by rw [hml]; rfl) (lenOf pd_1 rfl) rfl (by show 2 * 0 + _ ≤ _; exact Nat.le_of_eq rfl) (hb hby at_247) (by decide) (by decide) (fun v110 T110 h110 L110 X110 e110 q110 => ?_)
    obtain ⟨rfl, M110, s110⟩ := q110
    replace e110 : T110.heap = h105 := e110.trans s110
    have N110 := Fr.app N109 M110
    show own_Run p e below Φ (T110.setTop (mkF m 250 #[.val (.int p1), .val (.int p2), .val (.int p3), .val (.int p4), .val (.int (3 : Int32)), .val (.int (p2 &&& (2147483647 : Int32))), .val (.int cp), .val (.int off), .val (.int fb), .val (.ref b94), .val (.int (4 : Int32)), .unset] [(.int (1 : Int32))]))
    refine own_go (fun t k => XS.ifNo X110.here hx rfl (hb hby at_250) rfl ((if0 _ _).trans (feq (by decide : ¬ ((1 : Int32) = (0 : Int32)))).1) k) ?_
    refine own_go (fun t k => XS.aload X110.here hx rfl (hb hby at_253) rfl rfl  k) ?_
    refine own_go (fun t k => XS.iconst X110.here hx rfl (hb hby at_255) k) ?_
    refine own_go (fun t k => XS.iload X110.here hx rfl (hb hby at_256) rfl  k) ?_
    refine own_go (fun t k => XS.iload X110.here hx rfl (hb hby at_258) rfl  k) ?_
    show own_Run p e below Φ (T110.setTop (mkF m 260 #[.val (.int p1), .val (.int p2), .val (.int p3), .val (.int p4), .val (.int (3 : Int32)), .val (.int (p2 &&& (2147483647 : Int32))), .val (.int cp), .val (.int off), .val (.int fb), .val (.ref b94), .val (.int (4 : Int32)), .unset] [(.int (4 : Int32)), (.int off), (.int (5 : Int32)), (.ref b94)]))
    refine own_go (fun t k => XS.iload X110.here hx rfl (hb hby at_260) rfl  k) ?_
    refine own_callS X110 hx hZ (y := (⟨"com/example/templum/templum/validation/Utf8EncodePinLaw", "kept", "([BIIIB)Z"⟩ : MethodName)) (W := 0) (argsL := [(.ref b94), (.int (5 : Int32)), (.int off), (.int (4 : Int32)), (.int fb)]) (rest := []) hown (hw _ (List.mem_of_getElem? (i := 6) rfl)) (hw _ (List.mem_of_getElem? (i := 7) rfl)) (hw _ (List.mem_of_getElem? (i := 8) rfl)) (hw _ (List.mem_of_getElem? (i := 9) rfl)) (by decide) (own_bk (rm_kept l Z a0 hw b94 (5 : Int32) off (4 : Int32) fb k94 (own_v4 fb off (((240 : Int32) ||| (cp >>> ((18 : Int32) &&& 31))).toInt8.toInt32) (((128 : Int32) ||| ((cp >>> ((12 : Int32) &&& 31)) &&& (63 : Int32))).toInt8.toInt32) (((128 : Int32) ||| ((cp >>> ((6 : Int32) &&& 31)) &&& (63 : Int32))).toInt8.toInt32) (((128 : Int32) ||| (cp &&& (63 : Int32))).toInt8.toInt32)) (0 : Int32) h105 n0 P105_0 ⟨by decide, by decide⟩ (own_k45 hoff)) hZ (hw _ (List.mem_of_getElem? (i := 9) rfl)) (hw _ (List.mem_of_getElem? (i := 8) rfl)) (by decide) (by decide)) e110 (g := (mkF m 262 #[.val (.int p1), .val (.int p2), .val (.int p3), .val (.int p4), .val (.int (3 : Int32)), .val (.int (p2 &&& (2147483647 : Int32))), .val (.int cp), .val (.int off), .val (.int fb), .val (.ref b94), .val (.int (4 : Int32)), .unset] [(.int fb), (.int (4 : Int32)), (.int off), (.int (5 : Int32)), (.ref b94)])) rfl (by rw [hml]; rfl) (lenOf pd_1 rfl) rfl (by show 2 * 0 + _ ≤ _; exact Nat.le_of_eq rfl) (hb hby at_262) (by decide) (by decide) (fun v111 T111 h111 L111 X111 e111 q111 => ?_)
    obtain ⟨rfl, M111, s111⟩ := q111
    replace e111 : T111.heap = h105 := e111.trans s111
    have N111 := Fr.app N110 M111
    refine own_go (fun t k => XS.ifNo X111.here hx rfl (hb hby at_265) rfl ((if0 _ _).trans (feq (by decide : ¬ ((1 : Int32) = (0 : Int32)))).1) k) ?_
    refine own_go (fun t k => XS.aload X111.here hx rfl (hb hby at_268) rfl rfl  k) ?_
    refine own_go (fun t k => XS.bipush X111.here hx rfl (hb hby at_270) k) ?_
    show own_Run p e below Φ (T111.setTop (mkF m 272 #[.val (.int p1), .val (.int p2), .val (.int p3), .val (.int p4), .val (.int (3 : Int32)), .val (.int (p2 &&& (2147483647 : Int32))), .val (.int cp), .val (.int off), .val (.int fb), .val (.ref b94), .val (.int (4 : Int32)), .unset] [(.int (6 : Int32)), (.ref b94)]))
    refine own_go (fun t k => XS.iload X111.here hx rfl (hb hby at_272) rfl  k) ?_
    refine own_go (fun t k => XS.iload X111.here hx rfl (hb hby at_274) rfl  k) ?_
    refine own_go (fun t k => XS.iload X111.here hx rfl (hb hby at_276) rfl  k) ?_
    refine own_callS X111 hx hZ (y := (⟨"com/example/templum/templum/validation/Utf8EncodePinLaw", "kept", "([BIIIB)Z"⟩ : MethodName)) (W := 0) (argsL := [(.ref b94), (.int (6 : Int32)), (.int off), (.int (4 : Int32)), (.int fb)]) (rest := []) hown (hw _ (List.mem_of_getElem? (i := 6) rfl)) (hw _ (List.mem_of_getElem? (i := 7) rfl)) (hw _ (List.mem_of_getElem? (i := 8) rfl)) (hw _ (List.mem_of_getElem? (i := 9) rfl)) (by decide) (own_bk (rm_kept l Z a0 hw b94 (6 : Int32) off (4 : Int32) fb k94 (own_v4 fb off (((240 : Int32) ||| (cp >>> ((18 : Int32) &&& 31))).toInt8.toInt32) (((128 : Int32) ||| ((cp >>> ((12 : Int32) &&& 31)) &&& (63 : Int32))).toInt8.toInt32) (((128 : Int32) ||| ((cp >>> ((6 : Int32) &&& 31)) &&& (63 : Int32))).toInt8.toInt32) (((128 : Int32) ||| (cp &&& (63 : Int32))).toInt8.toInt32)) (0 : Int32) h105 n0 P105_0 ⟨by decide, by decide⟩ (own_k46 hoff)) hZ (hw _ (List.mem_of_getElem? (i := 9) rfl)) (hw _ (List.mem_of_getElem? (i := 8) rfl)) (by decide) (by decide)) e111 (g := (mkF m 278 #[.val (.int p1), .val (.int p2), .val (.int p3), .val (.int p4), .val (.int (3 : Int32)), .val (.int (p2 &&& (2147483647 : Int32))), .val (.int cp), .val (.int off), .val (.int fb), .val (.ref b94), .val (.int (4 : Int32)), .unset] [(.int fb), (.int (4 : Int32)), (.int off), (.int (6 : Int32)), (.ref b94)])) rfl (by rw [hml]; rfl) (lenOf pd_1 rfl) rfl (by show 2 * 0 + _ ≤ _; exact Nat.le_of_eq rfl) (hb hby at_278) (by decide) (by decide) (fun v112 T112 h112 L112 X112 e112 q112 => ?_)
    obtain ⟨rfl, M112, s112⟩ := q112
    replace e112 : T112.heap = h105 := e112.trans s112
    have N112 := Fr.app N111 M112
    refine own_go (fun t k => XS.ifNo X112.here hx rfl (hb hby at_281) rfl ((if0 _ _).trans (feq (by decide : ¬ ((1 : Int32) = (0 : Int32)))).1) k) ?_
    show own_Run p e below Φ (T112.setTop (mkF m 284 #[.val (.int p1), .val (.int p2), .val (.int p3), .val (.int p4), .val (.int (3 : Int32)), .val (.int (p2 &&& (2147483647 : Int32))), .val (.int cp), .val (.int off), .val (.int fb), .val (.ref b94), .val (.int (4 : Int32)), .unset] []))
    refine own_go (fun t k => XS.aload X112.here hx rfl (hb hby at_284) rfl rfl  k) ?_
    refine own_go (fun t k => XS.bipush X112.here hx rfl (hb hby at_286) k) ?_
    refine own_go (fun t k => XS.iload X112.here hx rfl (hb hby at_288) rfl  k) ?_
    refine own_go (fun t k => XS.iload X112.here hx rfl (hb hby at_290) rfl  k) ?_
    refine own_go (fun t k => XS.iload X112.here hx rfl (hb hby at_292) rfl  k) ?_
    show own_Run p e below Φ (T112.setTop (mkF m 294 #[.val (.int p1), .val (.int p2), .val (.int p3), .val (.int p4), .val (.int (3 : Int32)), .val (.int (p2 &&& (2147483647 : Int32))), .val (.int cp), .val (.int off), .val (.int fb), .val (.ref b94), .val (.int (4 : Int32)), .unset] [(.int fb), (.int (4 : Int32)), (.int off), (.int (7 : Int32)), (.ref b94)]))
    refine own_callS X112 hx hZ (y := (⟨"com/example/templum/templum/validation/Utf8EncodePinLaw", "kept", "([BIIIB)Z"⟩ : MethodName)) (W := 0) (argsL := [(.ref b94), (.int (7 : Int32)), (.int off), (.int (4 : Int32)), (.int fb)]) (rest := []) hown (hw _ (List.mem_of_getElem? (i := 6) rfl)) (hw _ (List.mem_of_getElem? (i := 7) rfl)) (hw _ (List.mem_of_getElem? (i := 8) rfl)) (hw _ (List.mem_of_getElem? (i := 9) rfl)) (by decide) (own_bk (rm_kept l Z a0 hw b94 (7 : Int32) off (4 : Int32) fb k94 (own_v4 fb off (((240 : Int32) ||| (cp >>> ((18 : Int32) &&& 31))).toInt8.toInt32) (((128 : Int32) ||| ((cp >>> ((12 : Int32) &&& 31)) &&& (63 : Int32))).toInt8.toInt32) (((128 : Int32) ||| ((cp >>> ((6 : Int32) &&& 31)) &&& (63 : Int32))).toInt8.toInt32) (((128 : Int32) ||| (cp &&& (63 : Int32))).toInt8.toInt32)) (0 : Int32) h105 n0 P105_0 ⟨by decide, by decide⟩ (own_k47 hoff)) hZ (hw _ (List.mem_of_getElem? (i := 9) rfl)) (hw _ (List.mem_of_getElem? (i := 8) rfl)) (by decide) (by decide)) e112 (g := (mkF m 294 #[.val (.int p1), .val (.int p2), .val (.int p3), .val (.int p4), .val (.int (3 : Int32)), .val (.int (p2 &&& (2147483647 : Int32))), .val (.int cp), .val (.int off), .val (.int fb), .val (.ref b94), .val (.int (4 : Int32)), .unset] [(.int fb), (.int (4 : Int32)), (.int off), (.int (7 : Int32)), (.ref b94)])) rfl (by rw [hml]; rfl) (lenOf pd_1 rfl) rfl (by show 2 * 0 + _ ≤ _; exact Nat.le_of_eq rfl) (hb hby at_294) (by decide) (by decide) (fun v113 T113 h113 L113 X113 e113 q113 => ?_)
    obtain ⟨rfl, M113, s113⟩ := q113
    replace e113 : T113.heap = h105 := e113.trans s113
    have N113 := Fr.app N112 M113
    refine own_go (fun t k => XS.ifNo X113.here hx rfl (hb hby at_297) rfl ((if0 _ _).trans (feq (by decide : ¬ ((1 : Int32) = (0 : Int32)))).1) k) ?_
    refine own_go (fun t k => XS.iconst X113.here hx rfl (hb hby at_300) k) ?_
    refine own_go (fun t k => XS.goto X113.here hx rfl (pc0 := 301) (pc' := 305) rfl (hb hby at_301) (by decide) (by decide) k) ?_
    refine own_go (fun t k => XS.istore X113.here hx rfl (hb hby at_305) rfl (l' := #[.val (.int p1), .val (.int p2), .val (.int p3), .val (.int p4), .val (.int (3 : Int32)), .val (.int (p2 &&& (2147483647 : Int32))), .val (.int cp), .val (.int off), .val (.int fb), .val (.ref b94), .val (.int (4 : Int32)), .val (.int (1 : Int32))]) rfl k) ?_
    show own_Run p e below Φ (T113.setTop (mkF m 307 #[.val (.int p1), .val (.int p2), .val (.int p3), .val (.int p4), .val (.int (3 : Int32)), .val (.int (p2 &&& (2147483647 : Int32))), .val (.int cp), .val (.int off), .val (.int fb), .val (.ref b94), .val (.int (4 : Int32)), .val (.int (1 : Int32))] []))
    refine own_go (fun t k => XS.iload X113.here hx rfl (hb hby at_307) rfl  k) ?_
    refine own_go (fun t k => XS.ifYes X113.here hx rfl (pc0 := 309) (pc' := 314) rfl (hb hby at_309) rfl ((if0 _ _).trans (feq (by decide : ¬ ((1 : Int32) = (0 : Int32)))).2) (by decide) (by decide) k) ?_
    refine own_go (fun t k => XS.aload X113.here hx rfl (hb hby at_314) rfl rfl  k) ?_
    refine own_go (fun t k => XS.iload X113.here hx rfl (hb hby at_316) rfl  k) ?_
    refine own_baload X113 hx hZ e113 P105_0 (j := off) (v := (.int (((240 : Int32) ||| (cp >>> ((18 : Int32) &&& 31))).toInt8.toInt32))) (own_o0 hoff) (own_g40 hoff) (g := (mkF m 318 #[.val (.int p1), .val (.int p2), .val (.int p3), .val (.int p4), .val (.int (3 : Int32)), .val (.int (p2 &&& (2147483647 : Int32))), .val (.int cp), .val (.int off), .val (.int fb), .val (.ref b94), .val (.int (4 : Int32)), .val (.int (1 : Int32))] [(.int off), (.ref b94)])) rfl rfl (hb hby at_318) ?_
    show own_Run p e below Φ (T113.setTop (mkF m 319 #[.val (.int p1), .val (.int p2), .val (.int p3), .val (.int p4), .val (.int (3 : Int32)), .val (.int (p2 &&& (2147483647 : Int32))), .val (.int cp), .val (.int off), .val (.int fb), .val (.ref b94), .val (.int (4 : Int32)), .val (.int (1 : Int32))] [(.int (((240 : Int32) ||| (cp >>> ((18 : Int32) &&& 31))).toInt8.toInt32))]))
    refine own_callS X113 hx hZ (y := (⟨"com/example/templum/templum/validation/Utf8", "length", "(B)I"⟩ : MethodName)) (W := 0) (argsL := [(.int (((240 : Int32) ||| (cp >>> ((18 : Int32) &&& 31))).toInt8.toInt32))]) (rest := []) hown (hw _ (List.mem_of_getElem? (i := 10) rfl)) (hw _ (List.mem_of_getElem? (i := 11) rfl)) (hw _ (List.mem_of_getElem? (i := 4) rfl)) (hw _ (List.mem_of_getElem? (i := 12) rfl)) (by decide) (own_bk (rm_len l Z a0 hw (((240 : Int32) ||| (cp >>> ((18 : Int32) &&& 31))).toInt8.toInt32) h105 n0 ) hZ (hw _ (List.mem_of_getElem? (i := 12) rfl)) (hw _ (List.mem_of_getElem? (i := 4) rfl)) (by decide) (by decide)) e113 (g := (mkF m 319 #[.val (.int p1), .val (.int p2), .val (.int p3), .val (.int p4), .val (.int (3 : Int32)), .val (.int (p2 &&& (2147483647 : Int32))), .val (.int cp), .val (.int off), .val (.int fb), .val (.ref b94), .val (.int (4 : Int32)), .val (.int (1 : Int32))] [(.int (((240 : Int32) ||| (cp >>> ((18 : Int32) &&& 31))).toInt8.toInt32))])) rfl (by rw [hml]; rfl) (lenOf pd_2 rfl) rfl (by show 2 * 0 + _ ≤ _; exact Nat.le_of_eq rfl) (hb hby at_319) (by decide) (by decide) (fun v114 T114 h114 L114 X114 e114 q114 => ?_)
    obtain ⟨rfl, M114, s114⟩ := q114
    replace e114 : T114.heap = h105 := e114.trans s114
    have N114 := Fr.app N113 M114
    refine own_go (fun t k => XS.iload X114.here hx rfl (hb hby at_322) rfl  k) ?_
    have hc324 : (own_len8 (((240 : Int32) ||| (cp >>> ((18 : Int32) &&& 31))).toInt8.toInt32)) = (4 : Int32) := (own_m4 hcp.1 hcp.2)
    refine own_go (fun t k => XS.icmpYes X114.here hx rfl (pc0 := 324) (pc' := 329) rfl (hb hby at_324) rfl (teq hc324).1 (by decide) (by decide) k) ?_
    refine own_go (fun t k => XS.iload X114.here hx rfl (hb hby at_329) rfl  k) ?_
    refine own_go (fun t k => XS.iconst X114.here hx rfl (hb hby at_331) k) ?_
    show own_Run p e below Φ (T114.setTop (mkF m 332 #[.val (.int p1), .val (.int p2), .val (.int p3), .val (.int p4), .val (.int (3 : Int32)), .val (.int (p2 &&& (2147483647 : Int32))), .val (.int cp), .val (.int off), .val (.int fb), .val (.ref b94), .val (.int (4 : Int32)), .val (.int (1 : Int32))] [(.int (1 : Int32)), (.int (4 : Int32))]))
    refine own_go (fun t k => XS.icmpYes X114.here hx rfl (pc0 := 332) (pc' := 352) rfl (hb hby at_332) rfl (feq (by decide : ¬ ((4 : Int32) = (1 : Int32)))).2 (by decide) (by decide) k) ?_
    refine own_go (fun t k => XS.aload X114.here hx rfl (hb hby at_352) rfl rfl  k) ?_
    refine own_go (fun t k => XS.iload X114.here hx rfl (hb hby at_354) rfl  k) ?_
    refine own_go (fun t k => XS.iload X114.here hx rfl (hb hby at_356) rfl  k) ?_
    have F115 : Old Z n0 h105 := ((((((((((O0.ext E94).wr W96 (Nat.le_trans Z0 (Nat.le_of_eq g94.symm))).wr W97 (Nat.le_trans Z0 (Nat.le_of_eq g94.symm))).wr W98 (Nat.le_trans Z0 (Nat.le_of_eq g94.symm))).wr W99 (Nat.le_trans Z0 (Nat.le_of_eq g94.symm))).wr W100 (Nat.le_trans Z0 (Nat.le_of_eq g94.symm))).wr W101 (Nat.le_trans Z0 (Nat.le_of_eq g94.symm))).wr W102 (Nat.le_trans Z0 (Nat.le_of_eq g94.symm))).wr W103 (Nat.le_trans Z0 (Nat.le_of_eq g94.symm))).keep K105 (allS (Nat.le_trans Z0 (Nat.le_of_eq g94.symm)) all0))
    have F116 : Arv Z h105 w1 kw .int (5 : Int32) [(.int (0 : Int32)), (.int (0 : Int32)), (.int (128 : Int32)), (.int (2048 : Int32)), (.int (65536 : Int32))] (.int (0 : Int32)) := V0.ext F115.2
    refine own_callS X114 hx hZ (y := (⟨"com/example/templum/templum/validation/Utf8", "decode", "([BII)I"⟩ : MethodName)) (W := 0) (argsL := [(.ref b94), (.int off), (.int (4 : Int32))]) (rest := []) hown (hw _ (List.mem_of_getElem? (i := 16) rfl)) (hw _ (List.mem_of_getElem? (i := 17) rfl)) (hw _ (List.mem_of_getElem? (i := 4) rfl)) (hw _ (List.mem_of_getElem? (i := 18) rfl)) (by decide) (own_bk (rm_dec4 l Z a0 hw b94 off k94 (own_v4 fb off (((240 : Int32) ||| (cp >>> ((18 : Int32) &&& 31))).toInt8.toInt32) (((128 : Int32) ||| ((cp >>> ((12 : Int32) &&& 31)) &&& (63 : Int32))).toInt8.toInt32) (((128 : Int32) ||| ((cp >>> ((6 : Int32) &&& 31)) &&& (63 : Int32))).toInt8.toInt32) (((128 : Int32) ||| (cp &&& (63 : Int32))).toInt8.toInt32)) (0 : Int32) (((240 : Int32) ||| (cp >>> ((18 : Int32) &&& 31))).toInt8.toInt32) (((128 : Int32) ||| ((cp >>> ((12 : Int32) &&& 31)) &&& (63 : Int32))).toInt8.toInt32) (((128 : Int32) ||| ((cp >>> ((6 : Int32) &&& 31)) &&& (63 : Int32))).toInt8.toInt32) (((128 : Int32) ||| (cp &&& (63 : Int32))).toInt8.toInt32) w1 kw h105 n0 P105_0 F115 S0 F116 (own_o0 hoff) (own_g40 hoff) (own_o1 hoff) (own_g41 hoff) (own_o2 hoff) (own_g42 hoff) (own_o3 hoff) (own_g43 hoff)) hZ (hw _ (List.mem_of_getElem? (i := 18) rfl)) (hw _ (List.mem_of_getElem? (i := 4) rfl)) (by decide) (by decide)) e114 (g := (mkF m 358 #[.val (.int p1), .val (.int p2), .val (.int p3), .val (.int p4), .val (.int (3 : Int32)), .val (.int (p2 &&& (2147483647 : Int32))), .val (.int cp), .val (.int off), .val (.int fb), .val (.ref b94), .val (.int (4 : Int32)), .val (.int (1 : Int32))] [(.int (4 : Int32)), (.int off), (.ref b94)])) rfl (by rw [hml]; rfl) (lenOf pd_3 rfl) rfl (by show 2 * 0 + _ ≤ _; exact Nat.le_of_eq rfl) (hb hby at_358) (by decide) (by decide) (fun v117 T117 h117 L117 X117 e117 q117 => ?_)
    obtain ⟨rfl, M117, s117⟩ := q117
    replace e117 : T117.heap = h105 := e117.trans s117
    have N117 := Fr.app N114 M117
    show own_Run p e below Φ (T117.setTop (mkF m 361 #[.val (.int p1), .val (.int p2), .val (.int p3), .val (.int p4), .val (.int (3 : Int32)), .val (.int (p2 &&& (2147483647 : Int32))), .val (.int cp), .val (.int off), .val (.int fb), .val (.ref b94), .val (.int (4 : Int32)), .val (.int (1 : Int32))] [(.int (own_dec4 (((240 : Int32) ||| (cp >>> ((18 : Int32) &&& 31))).toInt8.toInt32) (((128 : Int32) ||| ((cp >>> ((12 : Int32) &&& 31)) &&& (63 : Int32))).toInt8.toInt32) (((128 : Int32) ||| ((cp >>> ((6 : Int32) &&& 31)) &&& (63 : Int32))).toInt8.toInt32) (((128 : Int32) ||| (cp &&& (63 : Int32))).toInt8.toInt32)))]))
    refine own_go (fun t k => XS.iload X117.here hx rfl (hb hby at_361) rfl  k) ?_
    have hc363 : (own_dec4 (((240 : Int32) ||| (cp >>> ((18 : Int32) &&& 31))).toInt8.toInt32) (((128 : Int32) ||| ((cp >>> ((12 : Int32) &&& 31)) &&& (63 : Int32))).toInt8.toInt32) (((128 : Int32) ||| ((cp >>> ((6 : Int32) &&& 31)) &&& (63 : Int32))).toInt8.toInt32) (((128 : Int32) ||| (cp &&& (63 : Int32))).toInt8.toInt32)) = cp := (own_d4 hcp.1 hcp.2)
    refine own_go (fun t k => XS.icmpNo X117.here hx rfl (hb hby at_363) rfl (teq hc363).2 k) ?_
    refine own_go (fun t k => XS.iconst X117.here hx rfl (hb hby at_366) k) ?_
    refine own_go (fun t k => XS.goto X117.here hx rfl (pc0 := 367) (pc' := 371) rfl (hb hby at_367) (by decide) (by decide) k) ?_
    subst hΦ
    exact own_retN X117 hx (t := .boolean) Bd.returns (by simp) hlk (hb hby at_371) e117 ⟨rfl, N117⟩ (by decide) (by decide)
set_option maxRecDepth 65536 in
set_option maxHeartbeats 40000000 in
theorem comes_1 {Post : Tables → Env → Array Value → State → Outcome → State → Prop} (hpost : ∀ tb e args s v u, (limb_1_1.after args s (.returned v) u = true ∧ limb_1_2.after args s (.returned v) u = true ∧ True) → FrameEnd s (.returned v) u (Jvm.fieldLocs frame_1_writes args s ++ Jvm.arrayLocs frame_1_arrays args s ++ Jvm.staticLocs frame_1_statics s) 16 128 → Post tb e args s (.returned v) u) :
    ArmFor flags0 classFile x code maxLocals ret World_1 tables_1 room_1 Calls_1 rest_1 Pre_1 Post := by
  intro l hfl _ _ p e ha hc hk s m args below hf hA hF happ hP
  obtain ⟨hcalls, hrest, hpre⟩ := hP
  obtain ⟨-, -, -, hnamed, -, -, -, hat⟩ := (Spec.applies_iff hf).mp happ
  obtain ⟨hg, hn⟩ := and_e (Cond.before_iff.mp (show (Jvm.Cond.and given_1 narrow_1).before args s = true from hpre))
  obtain ⟨hcount, hg⟩ := and_e hg
  obtain ⟨ha0, hg⟩ := and_e hg
  obtain ⟨ha1, hg⟩ := and_e hg
  obtain ⟨ha2, hg⟩ := and_e hg
  have ha3 := hg
  obtain ⟨w0, w1, w2, w3, rfl⟩ : ∃ w0 w1 w2 w3 : Value, args = #[w0, w1, w2, w3] := by
    have hs : args.size = 4 := by simpa [Cond.value, given_1] using hcount
    obtain ⟨L⟩ := args
    match L, hs with
    | [w0, w1, w2, w3], _ => exact ⟨w0, w1, w2, w3, rfl⟩
  have hw := fun d (hd : d ∈ tables_1) => atoms_spec (ws := Jvm.Cond.code x code maxLocals ret :: tables_1) hat d (List.mem_cons_of_mem _ hd)
  have hfit : Fit s := fun {y c} hc i hi => by
    obtain ⟨ha, rfl⟩ := Array.getElem?_eq_some_iff.mp hc
    have q := List.all_eq_true.mp ((Array.all_eq_true_iff_forall_mem.mp hF) _ (Array.getElem_mem ha)) i (List.mem_range.mpr hi)
    simpa [Array.getElem?_eq_getElem hi] using q
  obtain ⟨i0, ei0⟩ := is_v ha0
  obtain rfl : w0 = (.int i0) := Option.some.inj ei0
  obtain ⟨i1, ei1⟩ := is_v ha1
  obtain rfl : w1 = (.int i1) := Option.some.inj ei1
  obtain ⟨i2, ei2⟩ := is_v ha2
  obtain rfl : w2 = (.int i2) := Option.some.inj ei2
  obtain ⟨i3, ei3⟩ := is_v ha3
  obtain rfl : w3 = (.int i3) := Option.some.inj ei3
  obtain ⟨hn0, hn⟩ := and_e hn
  obtain ⟨hn1, hn⟩ := and_e hn
  obtain ⟨hn2, hn⟩ := and_e hn
  obtain ⟨hn3, hn⟩ := and_e hn
  obtain ⟨hn4, hn⟩ := and_e hn
  obtain ⟨hn5, hn⟩ := and_e hn
  have hn6 := hn
  obtain ⟨u1, eu1⟩ := arr_v hn0
  have S0 := Sta.start eu1 (Or.inr ⟨hw _ (List.mem_of_getElem? (i := 4) rfl), hw _ (List.mem_of_getElem? (i := 20) rfl)⟩)
  obtain ⟨cu, A0⟩ := Arr.start eu1 hn0
  obtain ⟨len0, len1, len2⟩ := own_len eu1 A0 hn1
  have el0 := (elem_in (own_eqI hn2) eu1 rfl A0.1).2
  have el1 := (elem_in (own_eqI hn3) eu1 rfl A0.1).2
  have el2 := (elem_in (own_eqI hn4) eu1 rfl A0.1).2
  have el3 := (elem_in (own_eqI hn5) eu1 rfl A0.1).2
  have el4 := (elem_in (own_eqI hn6) eu1 rfl A0.1).2
  have V0 : Arv s s.heap u1 cu.cls .int (5 : Int32) [(.int (0 : Int32)), (.int (0 : Int32)), (.int (128 : Int32)), (.int (2048 : Int32)), (.int (65536 : Int32))] (.int (0 : Int32)) := Arv.start hfit A0 len1 len2 (by decide) rfl ⟨el0, el1, el2, el3, el4, trivial⟩
  obtain ⟨n, o, h1, h2, h3, _, L, rfl, ⟨rfl, N⟩, hq⟩ := rm_law l s _ hw i0 i1 i2 i3 u1 cu.cls s.heap s.heap.size (Nat.le_refl _) (Old.start s) S0 V0 tables_1 p e ha hc hk s m _ below hf ((Spec.applies_iff_loose hf).mp happ).1 ⟨rfl, State.Warmed39.refl s, rfl⟩ trivial
  refine ⟨n, _, h1, h2, h3, hpost _ _ _ _ _ _ ⟨Cond.after_iff.mpr rfl, Cond.after_iff.mpr (eq_i res_at (Term.int_eval (1)) rfl), trivial⟩ ⟨hq.1, hq.2.1, (hq.2.2.sift fun y hy => Or.inr (N y hy)).mono (by decide) (by decide)⟩⟩
theorem main_1_1 : Claimed_1_1 := comes_1 fun _ _ _ _ _ _ h hF => ⟨h.1, hF⟩
theorem main_1_2 : Claimed_1_2 := comes_1 fun _ _ _ _ _ _ h hF => ⟨h.2.1, hF⟩
end Jvm.Pilot.@@N@@
namespace Jvm.Pilot.@@N@@
open Jvm Jvm.ClassFile Sem Op Lib Jvm.Free Jvm.Stand Jvm.Pilot.@@N@@.Jvm.D
/-! MADE BY PROGRAM (witnessworld.py) out of the Statement's table words and the real class files: 9 classes; the members and pool entries that the words name. The judged class is class 1, her method 1. -/
namespace start1
open Jvm.ClassFile
def u (s : String) : CpInfo := .utf8 (stringToUtf16 s)
/-- a pool by its gaps: so many unusable entries, then the entry; so many at the end -/
def gap : Nat → List CpInfo → List CpInfo
  | 0, r => r
  | n + 1, r => .unusable :: gap n r
def poolList (es : List (Nat × CpInfo)) (last : Nat) : List CpInfo := es.foldr (fun e r => gap e.1 (e.2 :: r)) (gap last [])
def pool (es : List (Nat × CpInfo)) (last : Nat) : Array CpInfo := ⟨poolList es last⟩
def fileOf (pool : Array CpInfo) (this : Nat) (attrs : Array Attribute := #[]) (ms : Array MethodInfo := #[]) (fl : Nat := 33) (sup : Nat := 0) (ifs : Array Nat := #[]) (fds : Array FieldInfo := #[]) : ClassFile where
  minorVersion := 0
  majorVersion := 65
  constantPool := pool
  accessFlags := fl
  thisClass := this
  superClass := sup
  interfaces := ifs
  fields := fds
  methods := ms
  attributes := attrs
def plain (name : String) (sup : Option ClassId) : Class where
  name := name
  kind := .ordinary
  loader := none
  accessFlags := 33
  super := sup
  interfaces := #[]
  cf := none
  fields := #[]
  methods := #[]
  instanceTypes := #[]
  staticTypes := #[]
  resolved := #[]
  callSites := []
  init := .initialized
  statics := none
  mirror := none

def pool0 : Array CpInfo := pool [(5, u "<init>"), (0, u "()V"), (1, .class_ 10), (1, u "java/lang/Object")] 113

def k0m0 : Method := { name := "<init>", desc := "()V", sig := { parameters := [], returnType := none }, accessFlags := 1, code := none }
/-- java/lang/Object -/
def k0 : Class := { plain "java/lang/Object" none with
  accessFlags := 33
  interfaces := #[]
  cf := some (fileOf pool0 8 #[] #[{ accessFlags := 1, nameIndex := 5, descriptorIndex := 6, attributes := #[] }] 33 0 #[] #[])
  fields := #[]
  methods := #[k0m0]
  instanceTypes := #[]
  staticTypes := #[]
  resolved := Array.replicate 124 none
  statics := none }

def pool1 : Array CpInfo := pool [(2, .class_ 4), (1, u "java/lang/Object"), (0, u "<init>"), (0, u "()V"), (0, .integer 2147483647), (0, .integer 61440), (0, .integer 55296), (0, .integer 65536), (0, .integer 1048576), (0, .methodref 13 14), (0, .class_ 15), (0, .nameAndType 16 17), (0, u "com/example/templum/templum/validation/Utf8"), (0, u "encode"), (0, u "(I[BI)I"), (0, .methodref 19 20), (0, .class_ 21), (0, .nameAndType 22 23), (0, u "com/example/templum/templum/validation/Utf8EncodePinLaw"), (0, u "kept"), (0, u "([BIIIB)Z"), (0, .methodref 13 25), (0, .nameAndType 26 27), (0, u "length"), (0, u "(B)I"), (0, .methodref 13 29), (0, .nameAndType 30 31), (0, u "decode"), (0, u "([BII)I"), (2, u "law"), (0, u "(IIII)Z")] 5

def k1m0 : Method := { name := "<init>", desc := "()V", sig := { parameters := [], returnType := none }, accessFlags := 2, code := none }
def k1c1 : Code := { maxStack := 5, maxLocals := 12, code := code, exceptionTable := #[], attributes := #[] }
def k1m1 : Method := { name := "law", desc := "(IIII)Z", sig := { parameters := [.int, .int, .int, .int], returnType := some .boolean }, accessFlags := 9, code := some k1c1 }
def k1c2 : Code := { maxStack := 3, maxLocals := 5, code := method_3_code, exceptionTable := #[], attributes := #[] }
def k1m2 : Method := { name := "kept", desc := "([BIIIB)Z", sig := { parameters := [(.array .byte), .int, .int, .int, .byte], returnType := some .boolean }, accessFlags := 10, code := some k1c2 }
/-- com/example/templum/templum/validation/Utf8EncodePinLaw -/
def k1 : Class := { plain "com/example/templum/templum/validation/Utf8EncodePinLaw" (some 0) with
  accessFlags := 49
  interfaces := #[]
  cf := some (fileOf pool1 19 #[] #[{ accessFlags := 2, nameIndex := 5, descriptorIndex := 6, attributes := #[] }, { accessFlags := 9, nameIndex := 34, descriptorIndex := 35, attributes := #[] }, { accessFlags := 10, nameIndex := 22, descriptorIndex := 23, attributes := #[] }] 49 2 #[] #[])
  fields := #[]
  methods := #[k1m0, k1m1, k1m2]
  instanceTypes := #[]
  staticTypes := #[]
  resolved := Array.replicate 41 none
  statics := none }

def pool2 : Array CpInfo := pool [(2, .class_ 4), (1, u "java/lang/Object"), (0, u "<init>"), (0, u "()V"), (0, .fieldref 8 9), (0, .class_ 10), (0, .nameAndType 11 12), (0, u "com/example/templum/templum/validation/Utf8"), (0, u "LEAST_OF_LENGTH"), (0, u "[I"), (2, .integer 55296), (0, .integer 57343), (0, .integer 1114111), (0, .integer 65536), (2, u "length"), (0, u "(B)I"), (1, u "decode"), (0, u "([BII)I"), (0, u "encode"), (0, u "(I[BI)I")] 3

def k2m0 : Method := { name := "<init>", desc := "()V", sig := { parameters := [], returnType := none }, accessFlags := 2, code := none }
def k2c1 : Code := { maxStack := 2, maxLocals := 2, code := prog_118_method_2_code, exceptionTable := #[], attributes := #[] }
def k2m1 : Method := { name := "length", desc := "(B)I", sig := { parameters := [.byte], returnType := some .int }, accessFlags := 8, code := some k2c1 }
def k2c2 : Code := { maxStack := 3, maxLocals := 6, code := prog_118_method_3_code, exceptionTable := #[], attributes := #[] }
def k2m2 : Method := { name := "decode", desc := "([BII)I", sig := { parameters := [(.array .byte), .int, .int], returnType := some .int }, accessFlags := 8, code := some k2c2 }
def k2c3 : Code := { maxStack := 5, maxLocals := 4, code := prog_118_method_4_code, exceptionTable := #[], attributes := #[] }
def k2m3 : Method := { name := "encode", desc := "(I[BI)I", sig := { parameters := [.int, (.array .byte), .int], returnType := some .int }, accessFlags := 8, code := some k2c3 }
/-- com/example/templum/templum/validation/Utf8 -/
def k2 : Class := { plain "com/example/templum/templum/validation/Utf8" (some 0) with
  accessFlags := 48
  interfaces := #[]
  cf := some (fileOf pool2 8 #[] #[{ accessFlags := 2, nameIndex := 5, descriptorIndex := 6, attributes := #[] }, { accessFlags := 8, nameIndex := 21, descriptorIndex := 22, attributes := #[] }, { accessFlags := 8, nameIndex := 24, descriptorIndex := 25, attributes := #[] }, { accessFlags := 8, nameIndex := 26, descriptorIndex := 27, attributes := #[] }] 48 2 #[] #[{ accessFlags := 26, nameIndex := 11, descriptorIndex := 12, attributes := #[] }])
  fields := #[{ name := "LEAST_OF_LENGTH", type := (.array .int), accessFlags := 26, slot := 0, constantValue := 0 }]
  methods := #[k2m0, k2m1, k2m2, k2m3]
  instanceTypes := #[]
  staticTypes := #[(.array .int)]
  resolved := Array.replicate 31 none
  statics := some 0 }

def pool3 : Array CpInfo := pool [(1, u "java/lang/Cloneable"), (0, .class_ 1), (0, u "java/lang/Object"), (0, .class_ 3)] 3

/-- java/lang/Cloneable -/
def k3 : Class := { plain "java/lang/Cloneable" (some 0) with
  accessFlags := 1537
  interfaces := #[]
  cf := some (fileOf pool3 2 #[] #[] 1537 4 #[] #[])
  fields := #[]
  methods := #[]
  instanceTypes := #[]
  staticTypes := #[]
  resolved := Array.replicate 8 none
  statics := none }

def pool4 : Array CpInfo := pool [(1, u "java/io/Serializable"), (0, .class_ 1), (0, u "java/lang/Object"), (0, .class_ 3)] 3

/-- java/io/Serializable -/
def k4 : Class := { plain "java/io/Serializable" (some 0) with
  accessFlags := 1537
  interfaces := #[]
  cf := some (fileOf pool4 2 #[] #[] 1537 4 #[] #[])
  fields := #[]
  methods := #[]
  instanceTypes := #[]
  staticTypes := #[]
  resolved := Array.replicate 8 none
  statics := none }

/-- the primitive byte -/
def k5 : Class := { plain "byte" none with kind := .primitive 'B', accessFlags := 0x411 }
/-- [B -/
def k6 : Class := { plain "[B" (some 0) with kind := .array 5 .byte, interfaces := #[3, 4], accessFlags := 1041 }

/-- the primitive int -/
def k7 : Class := { plain "int" none with kind := .primitive 'I', accessFlags := 0x411 }
/-- [I -/
def k8 : Class := { plain "[I" (some 0) with kind := .array 7 .int, interfaces := #[3, 4], accessFlags := 1041 }

def heap : Heap := #[{ cls := 2, slots := #[.ref 1], vm := .statics 2 },
  { cls := 8, slots := #[.int 0, .int 0, .int 128, .int 2048, .int 65536], vm := .none }]
def classes : Array Class := #[k0, k1, k2, k3, k4, k5, k6, k7, k8]
def interned : List (Array UInt16 × Addr) := []
def slotsUsed : Nat := 6
def theMethod : MethodId := ⟨1, 1⟩
def args0 : Array Value := #[.int 5, .int 7, .int 9, .int 11]
def aboutOver (below : List Frame) : State where
  vm := { classes := classes, interned := interned.toArray }
  heap := heap
  slotsUsed := slotsUsed
  threads := #[{ frames := .invoking theMethod args0 :: below }]
def below0 : List Frame := [.native { method := ⟨0, 0⟩, args := #[] }]
def about1 : State := aboutOver below0
def p0 : Program := .bare "" "" ""
def e0 : Env := launch0.env 0 0 0
theorem w_frames : about1.frames = Frame.invoking theMethod args0 :: below0 := rfl
set_option maxRecDepth 65536 in
theorem w_args : argsFit about1.vm theMethod args0 = true := by decide +kernel
set_option maxRecDepth 65536 in
theorem w_heap : heapFits about1 = true := by decide +kernel
set_option maxRecDepth 65536 in
theorem w_runnable : about1.curStatus? = some .runnable := by decide +kernel
set_option maxRecDepth 65536 in
theorem w_alone : about1.alone = true := by decide +kernel
set_option maxRecDepth 65536 in
theorem w_named : about1.methodNamed? x = some theMethod := by decide +kernel
set_option maxRecDepth 65536 in
theorem w_hears : about1.hears theMethod below0 = true := by decide +kernel
set_option maxRecDepth 65536 in
theorem w_ripe : about1.ripe theMethod args0 below0 = true := by decide +kernel
theorem w_running : about1.status = .running := rfl
set_option maxRecDepth 65536 in
theorem w_room : about1.hasRoom e0.platform room_1 = true :=
  launch0.hasRoom_least _ room_1 (by decide +kernel) (by decide +kernel) (by decide +kernel) (by decide +kernel) (by decide +kernel) (by decide +kernel)
theorem allAtoms_all (ts : List Jvm.Cond) (a : Array Jvm.Value) (st : Jvm.State) : (allAtoms ts).before a st = ts.all (fun c => c.before a st) := by
  induction ts with
  | nil => rfl
  | cons c t ih =>
    show (Jvm.Cond.and c (allAtoms t)).before a st = _
    rw [Jvm.Cond.before_and, ih, List.all_cons]
def words1 : List Jvm.Cond := Jvm.Cond.code x code maxLocals ret :: tables_1
/-- a 'code' word, met by the world's own term for the bytes: nothing is compared byte by byte -/
theorem code_word {y : MethodName} {bytes : ByteArray} {mx : Nat} {rt : Option FieldType} {a : Array Value} {s : State} {m : MethodId} {meth : Method} {c : Code} (h1 : s.methodNamed? y = some m) (h2 : s.vm.method? m = some meth) (h3 : meth.code = some c) (h4 : c.code = bytes)
    (h5 : (c.maxLocals == mx && c.exceptionTable.isEmpty && decide (c.maxStack ≤ mostOperands) && decide (meth.sig.returnType = rt) && !meth.locks && decide (parseMethodDescriptor y.desc = some meth.sig)) = true) : (Jvm.Cond.code y bytes mx rt).before a s = true := by
  simp only [Bool.and_eq_true, beq_iff_eq, Bool.not_eq_true', decide_eq_true_eq] at h5
  obtain ⟨⟨⟨⟨⟨g1, g2⟩, g3⟩, g4⟩, g5⟩, g6⟩ := h5
  simp [Cond.before, Cond.holds, Cond.value, h1, h2, h3, h4, g1, g2, g3, g4, g5, g6]
def isCode : Jvm.Cond → Bool
  | .code _ _ _ _ => true
  | _ => false
theorem all_split {L : List Jvm.Cond} {P : Jvm.Cond → Bool} (h1 : L.all (fun c => isCode c || P c) = true) (h2 : ∀ c ∈ L.filter isCode, P c = true) : L.all P = true := by
  refine List.all_eq_true.mpr fun c hc => ?_
  have h := List.all_eq_true.mp h1 c hc
  rcases Bool.eq_false_or_eq_true (isCode c) with hi | hi
  · exact h2 c (List.mem_filter.mpr ⟨hc, hi⟩)
  · simpa [hi] using h
set_option maxRecDepth 65536 in
theorem w_c0 : (Jvm.Cond.code x code maxLocals ret).before args0 about1 = true := code_word (m := ⟨1, 1⟩) (meth := k1m1) (c := k1c1) (by decide +kernel) rfl rfl rfl (by decide +kernel)
set_option maxRecDepth 65536 in
theorem w_c1 : (Jvm.Cond.code ({ cls := "com/example/templum/templum/validation/Utf8", name := "encode", desc := "(I[BI)I" } : Jvm.MethodName) prog_118_method_4_code (4 : Nat) (Option.some Jvm.ClassFile.FieldType.int)).before args0 about1 = true := code_word (m := ⟨2, 3⟩) (meth := k2m3) (c := k2c3) (by decide +kernel) rfl rfl rfl (by decide +kernel)
set_option maxRecDepth 65536 in
theorem w_c2 : (Jvm.Cond.code ({ cls := "com/example/templum/templum/validation/Utf8EncodePinLaw", name := "kept", desc := "([BIIIB)Z" } : Jvm.MethodName) method_3_code (5 : Nat) (Option.some Jvm.ClassFile.FieldType.boolean)).before args0 about1 = true := code_word (m := ⟨1, 2⟩) (meth := k1m2) (c := k1c2) (by decide +kernel) rfl rfl rfl (by decide +kernel)
set_option maxRecDepth 65536 in
theorem w_c3 : (Jvm.Cond.code ({ cls := "com/example/templum/templum/validation/Utf8", name := "length", desc := "(B)I" } : Jvm.MethodName) prog_118_method_2_code (2 : Nat) (Option.some Jvm.ClassFile.FieldType.int)).before args0 about1 = true := code_word (m := ⟨2, 1⟩) (meth := k2m1) (c := k2c1) (by decide +kernel) rfl rfl rfl (by decide +kernel)
set_option maxRecDepth 65536 in
theorem w_c4 : (Jvm.Cond.code ({ cls := "com/example/templum/templum/validation/Utf8", name := "decode", desc := "([BII)I" } : Jvm.MethodName) prog_118_method_3_code (6 : Nat) (Option.some Jvm.ClassFile.FieldType.int)).before args0 about1 = true := code_word (m := ⟨2, 2⟩) (meth := k2m2) (c := k2c2) (by decide +kernel) rfl rfl rfl (by decide +kernel)
def codes1 : List Jvm.Cond := [Jvm.Cond.code x code maxLocals ret, Jvm.Cond.code ({ cls := "com/example/templum/templum/validation/Utf8", name := "encode", desc := "(I[BI)I" } : Jvm.MethodName) prog_118_method_4_code (4 : Nat) (Option.some Jvm.ClassFile.FieldType.int), Jvm.Cond.code ({ cls := "com/example/templum/templum/validation/Utf8EncodePinLaw", name := "kept", desc := "([BIIIB)Z" } : Jvm.MethodName) method_3_code (5 : Nat) (Option.some Jvm.ClassFile.FieldType.boolean), Jvm.Cond.code ({ cls := "com/example/templum/templum/validation/Utf8", name := "length", desc := "(B)I" } : Jvm.MethodName) prog_118_method_2_code (2 : Nat) (Option.some Jvm.ClassFile.FieldType.int), Jvm.Cond.code ({ cls := "com/example/templum/templum/validation/Utf8", name := "decode", desc := "([BII)I" } : Jvm.MethodName) prog_118_method_3_code (6 : Nat) (Option.some Jvm.ClassFile.FieldType.int)]
set_option maxRecDepth 65536 in
theorem codes_eq : words1.filter isCode = codes1 := rfl
theorem w_codes : ∀ c ∈ words1.filter isCode, c.before args0 about1 = true := by
  rw [codes_eq]
  intro c hc
  simp only [codes1, List.mem_cons, List.not_mem_nil, or_false] at hc
  rcases hc with rfl | rfl | rfl | rfl | rfl
  · exact w_c0
  · exact w_c1
  · exact w_c2
  · exact w_c3
  · exact w_c4
set_option maxRecDepth 65536 in
theorem w_t1 : (words1.take 24).all (fun c => isCode c || c.before args0 about1) = true := by decide +kernel
set_option maxRecDepth 65536 in
theorem w_t2 : (words1.drop 24).all (fun c => isCode c || c.before args0 about1) = true := by decide +kernel
theorem w_tables : (allAtoms (Jvm.Cond.code x code maxLocals ret :: tables_1)).before args0 about1 = true := by
  rw [allAtoms_all]
  show words1.all (fun c => c.before args0 about1) = true
  refine all_split ?_ w_codes
  rw [← List.take_append_drop 24 words1, List.all_append, w_t1, w_t2]
  rfl
set_option maxRecDepth 65536 in
theorem w_case : (Jvm.Cond.and given_1 narrow_1).before args0 about1 = true := by decide +kernel
theorem w_applies : (headSpec (Jvm.Cond.code x code maxLocals ret :: tables_1) room_1).applies x e0.platform about1 = true :=
  (Spec.applies_iff w_frames).mpr ⟨w_running, w_runnable, w_alone, w_named, w_hears, w_ripe, w_room, w_tables⟩
theorem atStart : AtStart classFile x code maxLocals ret World_1 tables_1 room_1 Calls_1 rest_1 Pre_1 launch0 p0 e0 about1 theMethod args0 below0 :=
  ⟨lists_1, trivial, launch0.admits_env _ _ _, launch0.least_env, fairChoices_fair.cas, fairChoices_fair.clock, w_frames, w_args, w_heap, w_applies, trivial, trivial, w_case⟩
end start1
theorem witness_1 : WitnessClaimed_1 := ⟨start1.p0, start1.e0, start1.about1, start1.theMethod, start1.args0, start1.below0, start1.atStart⟩
end Jvm.Pilot.@@N@@
