import JvmDerived
import JvmDerived.Pilot.@@N@@Statement
import JvmDerived.Pilot.@@N@@Code
set_option linter.unusedVariables false
set_option linter.unusedSimpArgs false
set_option maxHeartbeats 40000000
namespace Jvm.RoadKit
open Sem ClassFile Op Lib Jvm.Stand Jvm.Free Jvm.LawKit
section New
variable {p : Program} {l : Launch} {e : Env} {R : Room} {s : State} {m : MethodId} {args : Array Value} {below : List Frame} {meth : Method} {c : Code} {T : State} {locs : List Loc} {cells slots : Nat}
theorem retI (X : Stand p l e R s m args below meth c T locs cells slots) (hx : p.tables.exec = Jvm.exec) {pc : Nat} {Ls : Array Slot} {z : Int32} {rest : List Value} (hret : meth.sig.returnType = some .int) (hd : decode c.code pc = .ok (.ireturn, 1)) {fs : List Frame}
    (hl : ∀ (f : JFrame) (acts : List Action), f.method = m → f.locked = none → f.entered = [] → (doReturn e (T.setTop f) acts (some (.int z))).1 = T.setFrames fs) : Steps p.tables e below (T.setTop (mkF m pc Ls (.int z :: rest))) (T.setFrames fs) := by
  have hm' : T.vm.method? m = some meth := X.method'
  have hn : narrow .int (.int z) = .int z := rfl
  show Steps p.tables e below (T.setTop { method := m, pc := pc, locals := Ls, stack := _ :: rest, locked := none }) _
  jvm_step X.here [X.here.top, hx, hd, hm', hret, hn]
  first | (intro acts; rw [hl _ acts rfl rfl rfl]) | rw [hl _ _ rfl rfl rfl]
  exact Steps.refl _
end New
end Jvm.RoadKit
namespace Jvm.Pilot.@@N@@
open Jvm Jvm.ClassFile Sem Op Lib Jvm.Free Jvm.Stand Jvm.LawKit Jvm.RoadKit Bundle Jvm.Pilot.@@N@@.Jvm.D
/-! a run that ends well: what this text is made of -/
def own_Run (p : Program) (e : Env) (below : List Frame) (Φ : State → Prop) (S : State) : Prop := ∃ t, Steps p.tables e below S t ∧ Φ t
def own_Fin (s : State) (below : List Frame) (C D : Nat) (Q : Option Value → Heap → List Loc → Prop) (t : State) : Prop :=
  t.status = .running ∧ ∃ v L, Ended t below (.returned v) ∧ Q v t.heap L ∧ FrameEnd s (.returned v) t L C D
def own_Met (l : Launch) (Z : State) (y : MethodName) (bytes : ByteArray) (maxL : Nat) (ret : Option FieldType) (rm : Room) (as : Array Value) (h : Heap) (Q : Option Value → Heap → List Loc → Prop) : Prop :=
  ∀ ws : List Jvm.Cond, MetFree l y (head1 (Jvm.Cond.code y bytes maxL ret :: ws) rm) (fun a U => a = as ∧ Z.Warmed39 U.vm ∧ U.heap = h) (fun _ _ _ _ _ => True) (fun _ U o U' => ∃ v L, o = .returned v ∧ Q v U'.heap L ∧ FrameEnd U o U' L rm.cells rm.slots)
section OwnRun
variable {p : Program} {l : Launch} {e : Env} {R : Room} {s : State} {m : MethodId} {args : Array Value} {below : List Frame} {meth : Method} {c : Code} {T : State} {locs : List Loc} {cells slots : Nat} {Φ : State → Prop} {S S' : State} {Z : State} {a0 : Array Value} {h : Heap}
theorem own_go (st : ∀ t, Steps p.tables e below S' t → Steps p.tables e below S t) (r : own_Run p e below Φ S') : own_Run p e below Φ S := r.elim fun t q => ⟨t, st t q.1, q.2⟩
theorem own_via (st : Steps p.tables e below S S') (r : own_Run p e below Φ S') : own_Run p e below Φ S := r.elim fun t q => ⟨t, st.trans q.1, q.2⟩
theorem own_cast {g g' : JFrame} (q : g = g') (r : own_Run p e below Φ (T.setTop g')) : own_Run p e below Φ (T.setTop g) := q ▸ r
theorem own_body {C D : Nat} {Q : Option Value → Heap → List Loc → Prop} (r : own_Run p e below (own_Fin s below C D Q) S) :
    ∃ s₂ o, Steps p.tables e below S s₂ ∧ s₂.status = .running ∧ Ended s₂ below o ∧ ∃ v L, o = .returned v ∧ Q v s₂.heap L ∧ FrameEnd s o s₂ L C D := by
  obtain ⟨t, q1, q2, v, L, q3, q4, q5⟩ := r
  exact ⟨t, _, q1, q2, q3, v, L, rfl, q4, q5⟩
variable {C D : Nat} {Q : Option Value → Heap → List Loc → Prop}
theorem own_retI (X : Stand p l e R s m args below meth c T locs cells slots) (hx : p.tables.exec = Jvm.exec) (hret : meth.sig.returnType = some .int) (hlk : meth.locks = false) {pc : Nat} {Ls : Array Slot} {z : Int32} {rest : List Value} (hd : decode c.code pc = .ok (.ireturn, 1)) (eT : T.heap = h) (hq : Q (some (.int z)) h locs) (hc : cells ≤ C) (hs : slots ≤ D) :
    own_Run p e below (own_Fin s below C D Q) (T.setTop (mkF m pc Ls (.int z :: rest))) := by
  obtain ⟨fs, hr, hrun, hended, hW, hsame⟩ := X.leave (v := some (.int z)) (fun q => by rw [hret] at q; cases q) hlk
  exact ⟨_, retI X hx hret hd hr, hrun, _, _, hended, by show Q _ T.heap _; rw [eT]; exact hq, ⟨_, rfl⟩, hW, hsame.mono hc hs⟩
theorem own_retN (X : Stand p l e R s m args below meth c T locs cells slots) (hx : p.tables.exec = Jvm.exec) {t : FieldType} (hret : meth.sig.returnType = some t) (ht : t = .boolean ∨ t = .byte ∨ t = .char ∨ t = .short) (hlk : meth.locks = false) {pc : Nat} {Ls : Array Slot} {z : Int32} {rest : List Value} (hd : decode c.code pc = .ok (.ireturn, 1)) (eT : T.heap = h) (hq : Q (some (.int (nar t z))) h locs) (hc : cells ≤ C) (hs : slots ≤ D) :
    own_Run p e below (own_Fin s below C D Q) (T.setTop (mkF m pc Ls (.int z :: rest))) := by
  obtain ⟨fs, hr, hrun, hended, hW, hsame⟩ := X.leave (v := some (.int (nar t z))) (fun q => by rw [hret] at q; cases q) hlk
  exact ⟨_, retN X hx hret ht hd hr, hrun, _, _, hended, by show Q _ T.heap _; rw [eT]; exact hq, ⟨_, rfl⟩, hW, hsame.mono hc hs⟩
theorem own_retV (X : Stand p l e R s m args below meth c T locs cells slots) (hx : p.tables.exec = Jvm.exec) (hret : meth.sig.returnType = none) (hlk : meth.locks = false) {pc : Nat} {Ls : Array Slot} (hd : decode c.code pc = .ok (.return_, 1)) (eT : T.heap = h) (hq : Q none h locs) (hc : cells ≤ C) (hs : slots ≤ D) :
    own_Run p e below (own_Fin s below C D Q) (T.setTop (mkF m pc Ls [])) := by
  obtain ⟨fs, hr, hrun, hended, hW, hsame⟩ := X.leave (v := none) (fun _ => rfl) hlk
  exact ⟨_, X.returnOut hx hret hd hr, hrun, _, _, hended, by show Q _ T.heap _; rw [eT]; exact hq, ⟨_, rfl⟩, hW, hsame.mono hc hs⟩
theorem own_retO (X : Stand p l e R s m args below meth c T locs cells slots) (hx : p.tables.exec = Jvm.exec) {t : FieldType} {i : Instr} {w : Value} (hret : meth.sig.returnType = some t) (hn : narrow t w = w)
    (hi : (i = .ireturn ∧ (t = .int ∨ t = .boolean ∨ t = .byte ∨ t = .char ∨ t = .short) ∧ ∃ z, w = .int z) ∨ (i = .lreturn ∧ t = .long ∧ ∃ z, w = .long z) ∨ (i = .dreturn ∧ t = .double ∧ ∃ z, w = .double z) ∨ (i = .freturn ∧ t = .float ∧ ∃ z, w = .float z) ∨ (i = .areturn ∧ t.isReference = true ∧ w.isRef = true))
    (hlk : meth.locks = false) {pc : Nat} {Ls : Array Slot} {rest : List Value} (hd : decode c.code pc = .ok (i, 1)) (eT : T.heap = h) (hq : Q (some w) h locs) (hc : cells ≤ C) (hs : slots ≤ D) :
    own_Run p e below (own_Fin s below C D Q) (T.setTop (mkF m pc Ls (w :: rest))) := by
  obtain ⟨fs, hr, hrun, hended, hW, hsame⟩ := X.leave (v := some w) (fun q => by rw [hret] at q; cases q) hlk
  exact ⟨_, retOut X hx hret hn hi hd hr, hrun, _, _, hended, by show Q _ T.heap _; rw [eT]; exact hq, ⟨_, rfl⟩, hW, hsame.mono hc hs⟩
/-- who pays a call -/
def own_Bk (l : Launch) (R : Room) (p : Program) (e : Env) (below : List Frame) (s : State) (args : Array Value) (y : MethodName) (W : Nat) (as : Array Value) (h : Heap) (cc ss : Nat) (Q : Option Value → Heap → List Loc → Prop) : Prop :=
  Back l R p e below s args y 3 W (fun A a => a = as ∧ A.U.heap = h ∧ A.cells + cc ≤ R.cells ∧ A.slots + ss ≤ R.slots) (fun A _ v B => ∃ L, Q v B.U.heap L ∧ B.locs = A.locs ++ L ∧ B.cells = A.cells + cc ∧ B.slots = A.slots + ss)
theorem own_bk {y : MethodName} {bytes : ByteArray} {maxL : Nat} {ret : Option FieldType} {rm : Room} {W : Nat} {as : Array Value} (hM : own_Met l Z y bytes maxL ret rm as h Q) (hZ : Z.Warmed39 s.vm) (wc : (Jvm.Cond.code y bytes maxL ret).before a0 Z = true) (wz : (Jvm.Cond.initialized y.cls).before a0 Z = true) (hf : rm.frames + 1 ≤ R.frames) (hl : W + (maxL + 11) + rm.locals ≤ R.locals) :
    own_Bk l R p e below s args y W as h rm.cells rm.slots Q := backOf (W := W) (hM []) hZ wc wz hf hl
/-- a static method by its contract -/
theorem own_callS (X : Stand p l e R s m args below meth c T locs cells slots) (hx : p.tables.exec = Jvm.exec) (hZ : Z.Warmed39 s.vm) {own : String} {index : Nat} {y : MethodName} {bytes : ByteArray} {maxL : Nat} {ret : Option FieldType} {cc ss : Nat}
    (hown : s.vm.findClass own = some m.cls) (w1 : (Jvm.Cond.methodLink own index y).before a0 Z = true) (w2 : (Jvm.Cond.static y).before a0 Z = true) (w3 : (Jvm.Cond.initialized y.cls).before a0 Z = true) (w4 : (Jvm.Cond.code y bytes maxL ret).before a0 Z = true)
    (hy : y.cls ≠ "java/lang/invoke/MethodHandle" ∧ y.cls ≠ "java/lang/invoke/VarHandle") {W : Nat} {argsL rest : List Value} (hK : own_Bk l R p e below s args y W argsL.toArray h cc ss Q) (eT : T.heap = h)
    {g : JFrame} (hg : g.method = m) (hsize : g.locals.size = c.maxLocals) (hlen : ∀ sig, parseMethodDescriptor y.desc = some sig → argsL.length = sig.parameters.length)
    (hstack : g.stack = argsL.reverse ++ rest) (hW : 2 * g.monitorRoom + (rest.map fun v => v.category).sum ≤ W) (hdg : decode c.code g.pc = .ok (.invokestatic index, 3))
    (hcl : cells + cc ≤ R.cells) (hsl : slots + ss ≤ R.slots)
    (k : ∀ v T' h' L, Stand p l e R s m args below meth c T' (locs ++ L) (cells + cc) (slots + ss) → T'.heap = h' → Q v h' L → own_Run p e below Φ (T'.setTop { g with pc := g.pc + 3, stack := v.toList ++ rest })) : own_Run p e below Φ (T.setTop g) := by
  obtain ⟨v, _, ⟨T', L', k', n'⟩, -, X', ⟨Lc, hQ, l1, y1, z1⟩, st⟩ := Jvm.LawKit.callS X hx (y := y) hown (mvT hZ w1) (mvT hZ w2) (mvT hZ w3) (mvT hZ w4) hy hK hg hsize hlen hstack hW hdg (fun _ _ => ⟨rfl, eT, hcl, hsl⟩)
  dsimp only [Pt.U, Pt.locs, Pt.cells, Pt.slots] at X' l1 y1 z1 st hQ
  subst l1 y1 z1
  exact own_go st (k v T' _ Lc X' rfl hQ)
/-- a constructor by its contract -/
theorem own_callI (X : Stand p l e R s m args below meth c T locs cells slots) (hx : p.tables.exec = Jvm.exec) (hZ : Z.Warmed39 s.vm) {own : String} {index : Nat} {y : MethodName} {bytes : ByteArray} {maxL : Nat} {cc ss : Nat} (hy1 : y.name = "<init>")
    (hown : s.vm.findClass own = some m.cls) (w1 : (Jvm.Cond.methodLink own index y).before a0 Z = true) (w2 : (Jvm.Cond.instanceMethod y).before a0 Z = true) (w4 : (Jvm.Cond.code y bytes maxL none).before a0 Z = true)
    (hy : y.cls ≠ "java/lang/invoke/MethodHandle" ∧ y.cls ≠ "java/lang/invoke/VarHandle") {W : Nat} {a : Addr} {argsL rest : List Value} (hK : own_Bk l R p e below s args y W (.ref a :: argsL).toArray h cc ss Q) (eT : T.heap = h)
    {g : JFrame} (hg : g.method = m) (hsize : g.locals.size = c.maxLocals) (hlen : ∀ sig, parseMethodDescriptor y.desc = some sig → argsL.length = sig.parameters.length)
    (hstack : g.stack = argsL.reverse ++ .ref a :: rest) (hW : 2 * g.monitorRoom + (rest.map fun v => v.category).sum ≤ W) (hdg : decode c.code g.pc = .ok (.invokespecial index, 3))
    (hcl : cells + cc ≤ R.cells) (hsl : slots + ss ≤ R.slots)
    (k : ∀ v T' h' L, Stand p l e R s m args below meth c T' (locs ++ L) (cells + cc) (slots + ss) → T'.heap = h' → Q v h' L → own_Run p e below Φ (T'.setTop { g with pc := g.pc + 3, stack := v.toList ++ rest })) : own_Run p e below Φ (T.setTop g) := by
  obtain ⟨v, _, ⟨T', L', k', n'⟩, -, X', ⟨Lc, hQ, l1, y1, z1⟩, st⟩ := X.specialBack hx (y := y) hy1 hown (mvT hZ w1) (mvT hZ w2) (mvT hZ w4) hy hK hg hsize (Steps.refl _) (a := a) hlen hstack hW hdg (fun _ _ => ⟨rfl, eT, hcl, hsl⟩)
  dsimp only [Pt.U, Pt.locs, Pt.cells, Pt.slots] at X' l1 y1 z1 st hQ
  subst l1 y1 z1
  exact own_via st (k v T' _ Lc X' rfl hQ)
/-- an instance method by the contract of the body that the receiver's class selects -/
theorem own_callV (X : Stand p l e R s m args below meth c T locs cells slots) (hx : p.tables.exec = Jvm.exec) (hZ : Z.Warmed39 s.vm) {own C : String} {index : Nat} {y z : MethodName} {cc ss : Nat}
    (hown : s.vm.findClass own = some m.cls) (w1 : (Jvm.Cond.methodLink own index y).before a0 Z = true) (w2 : (Jvm.Cond.declares y).before a0 Z = true) (hnf : NotFace s y) (w3 : (Jvm.Cond.selects C y z).before a0 Z = true) (w4 : (Jvm.Cond.instanceMethod z).before a0 Z = true)
    (hy : y.cls ≠ "java/lang/invoke/MethodHandle" ∧ y.cls ≠ "java/lang/invoke/VarHandle") {W : Nat} {a : Addr} {argsL rest : List Value} (hK : own_Bk l R p e below s args z W (.ref a :: argsL).toArray h cc ss Q) (eT : T.heap = h) (E : Exa Z h a C)
    {g : JFrame} (hg : g.method = m) (hsize : g.locals.size = c.maxLocals) (hlen : ∀ sig, parseMethodDescriptor y.desc = some sig → argsL.length = sig.parameters.length)
    (hstack : g.stack = argsL.reverse ++ .ref a :: rest) (hW : 2 * g.monitorRoom + (rest.map fun v => v.category).sum ≤ W) (hdg : decode c.code g.pc = .ok (.invokevirtual index, 3))
    (hcl : cells + cc ≤ R.cells) (hsl : slots + ss ≤ R.slots)
    (k : ∀ v T' h' L, Stand p l e R s m args below meth c T' (locs ++ L) (cells + cc) (slots + ss) → T'.heap = h' → Q v h' L → own_Run p e below Φ (T'.setTop { g with pc := g.pc + 3, stack := v.toList ++ rest })) : own_Run p e below Φ (T.setTop g) := by
  obtain ⟨cq, kq, qa, qb, qc⟩ := isOf hZ eT E
  obtain ⟨v, _, ⟨T', L', k', n'⟩, -, X', ⟨Lc, hQ, l1, y1, z1⟩, st⟩ := X.virtualBack hx (y := y) (z := z) hown (mvT hZ w1) (mvT hZ w2) hnf (mvT hZ w3) (mvT hZ w4) hy hK qa qc hg hsize (Steps.refl _) hlen hstack hW hdg (fun _ _ => ⟨rfl, eT, hcl, hsl⟩)
  dsimp only [Pt.U, Pt.locs, Pt.cells, Pt.slots] at X' l1 y1 z1 st hQ
  subst l1 y1 z1
  exact own_via st (k v T' _ Lc X' rfl hQ)
/-- an instance method that a superclass declares -/
theorem own_callU (X : Stand p l e R s m args below meth c T locs cells slots) (hx : p.tables.exec = Jvm.exec) (hZ : Z.Warmed39 s.vm) {own C owner : String} {index : Nat} {y z : MethodName} {cc ss : Nat}
    (hown : s.vm.findClass own = some m.cls) (w1 : (Jvm.Cond.methodLink own index y).before a0 Z = true) (w0 : (Jvm.Cond.sameMethod y.cls owner y.name y.desc).before a0 Z = true) (w2 : (Jvm.Cond.declares ⟨owner, y.name, y.desc⟩).before a0 Z = true) (w3 : (Jvm.Cond.selects C y z).before a0 Z = true) (w4 : (Jvm.Cond.instanceMethod z).before a0 Z = true)
    (hy : owner ≠ "java/lang/invoke/MethodHandle" ∧ owner ≠ "java/lang/invoke/VarHandle") {W : Nat} {a : Addr} {argsL rest : List Value} (hK : own_Bk l R p e below s args z W (.ref a :: argsL).toArray h cc ss Q) (eT : T.heap = h) (E : Exa Z h a C)
    {g : JFrame} (hg : g.method = m) (hsize : g.locals.size = c.maxLocals) (hlen : ∀ sig, parseMethodDescriptor y.desc = some sig → argsL.length = sig.parameters.length)
    (hstack : g.stack = argsL.reverse ++ .ref a :: rest) (hW : 2 * g.monitorRoom + (rest.map fun v => v.category).sum ≤ W) (hdg : decode c.code g.pc = .ok (.invokevirtual index, 3))
    (hcl : cells + cc ≤ R.cells) (hsl : slots + ss ≤ R.slots)
    (k : ∀ v T' h' L, Stand p l e R s m args below meth c T' (locs ++ L) (cells + cc) (slots + ss) → T'.heap = h' → Q v h' L → own_Run p e below Φ (T'.setTop { g with pc := g.pc + 3, stack := v.toList ++ rest })) : own_Run p e below Φ (T.setTop g) := by
  obtain ⟨cq, kq, qa, qb, qc⟩ := isOf hZ eT E
  obtain ⟨v, _, ⟨T', L', k', n'⟩, -, X', ⟨Lc, hQ, l1, y1, z1⟩, st⟩ := X.virtualBackUp hx (x := y) (y := z) hown (mvT hZ w1) (mvT hZ w0) (mvT hZ w2) hy (mvT hZ w3) (mvT hZ w4) hK qa qc hg hsize (Steps.refl _) hlen hstack hW hdg (fun _ _ => ⟨rfl, eT, hcl, hsl⟩)
  dsimp only [Pt.U, Pt.locs, Pt.cells, Pt.slots] at X' l1 y1 z1 st hQ
  subst l1 y1 z1
  exact own_via st (k v T' _ Lc X' rfl hQ)
/-- a private method by its contract -/
theorem own_callP (X : Stand p l e R s m args below meth c T locs cells slots) (hx : p.tables.exec = Jvm.exec) (hZ : Z.Warmed39 s.vm) {own C : String} {index : Nat} {y : MethodName} {bytes : ByteArray} {maxL : Nat} {ret : Option FieldType} {cc ss : Nat}
    (hown : s.vm.findClass own = some m.cls) (w1 : (Jvm.Cond.methodLink own index y).before a0 Z = true) (w2 : (Jvm.Cond.instanceMethod y).before a0 Z = true) (w3 : (Jvm.Cond.selects y.cls y y).before a0 Z = true) (w4 : (Jvm.Cond.privateMethod y).before a0 Z = true) (w6 : (Jvm.Cond.code y bytes maxL ret).before a0 Z = true)
    (hy : y.cls ≠ "java/lang/invoke/MethodHandle" ∧ y.cls ≠ "java/lang/invoke/VarHandle") {W : Nat} {a : Addr} {argsL rest : List Value} (hK : own_Bk l R p e below s args y W (.ref a :: argsL).toArray h cc ss Q) (eT : T.heap = h) (E : Exa Z h a C)
    {g : JFrame} (hg : g.method = m) (hsize : g.locals.size = c.maxLocals) (hlen : ∀ sig, parseMethodDescriptor y.desc = some sig → argsL.length = sig.parameters.length)
    (hstack : g.stack = argsL.reverse ++ .ref a :: rest) (hW : 2 * g.monitorRoom + (rest.map fun v => v.category).sum ≤ W) (hdg : decode c.code g.pc = .ok (.invokevirtual index, 3))
    (hcl : cells + cc ≤ R.cells) (hsl : slots + ss ≤ R.slots)
    (k : ∀ v T' h' L, Stand p l e R s m args below meth c T' (locs ++ L) (cells + cc) (slots + ss) → T'.heap = h' → Q v h' L → own_Run p e below Φ (T'.setTop { g with pc := g.pc + 3, stack := v.toList ++ rest })) : own_Run p e below Φ (T.setTop g) := by
  obtain ⟨cq, q1, q2⟩ := E.cell
  obtain ⟨v, _, ⟨T', L', k', n'⟩, -, X', ⟨Lc, hQ, l1, y1, z1⟩, st⟩ := X.privateBack hx (y := y) hown (mvT hZ w1) (mvT hZ w2) (mvT hZ w3) (Cond.privateMethod_at (mvP hZ w4 (args := #[]))) (mvT hZ w6) hy hK hg hsize (Steps.refl _) (a := a) (by rw [eT]; exact q1) q2 hlen hstack hW hdg (fun _ _ => ⟨rfl, eT, hcl, hsl⟩)
  dsimp only [Pt.U, Pt.locs, Pt.cells, Pt.slots] at X' l1 y1 z1 st hQ
  subst l1 y1 z1
  exact own_via st (k v T' _ Lc X' rfl hQ)
/-- arrays: reading -/
theorem own_iaload (X : Stand p l e R s m args below meth c T locs cells slots) (hx : p.tables.exec = Jvm.exec) (hZ : Z.Warmed39 s.vm) (eT : T.heap = h) {a : Addr} {k : ClassId} {z j : Int32} {vs : List Value} {dv v : Value} (V : Arv Z h a k .int z vs dv) (hj : ¬ j < 0 ∧ j < z) (hv : vs.getD j.toNatClampNeg dv = v)
    {g : JFrame} (hg : g.method = m) {rest : List Value} (hs : g.stack = .int j :: .ref a :: rest) (hd : decode c.code g.pc = .ok (.iaload, 1)) (r : own_Run p e below Φ (T.setTop { g with pc := g.pc + 1, stack := v :: rest })) : own_Run p e below Φ (T.setTop g) := by
  obtain ⟨cl, A, -, S, -, H, -⟩ := V
  exact own_go (fun t q => X.iaload hx (j := j) (v := v) (by rw [eT]; exact A.1) (State.isArrayOf_alike hZ.alike A.2.1) A.2.2 (inb_of S hj) (Has.at H (inb_of S hj) hv) hg hs hd t q) r
theorem own_laload (X : Stand p l e R s m args below meth c T locs cells slots) (hx : p.tables.exec = Jvm.exec) (hZ : Z.Warmed39 s.vm) (eT : T.heap = h) {a : Addr} {k : ClassId} {z j : Int32} {vs : List Value} {dv v : Value} (V : Arv Z h a k .long z vs dv) (hj : ¬ j < 0 ∧ j < z) (hv : vs.getD j.toNatClampNeg dv = v)
    {g : JFrame} (hg : g.method = m) {rest : List Value} (hs : g.stack = .int j :: .ref a :: rest) (hd : decode c.code g.pc = .ok (.laload, 1)) (r : own_Run p e below Φ (T.setTop { g with pc := g.pc + 1, stack := v :: rest })) : own_Run p e below Φ (T.setTop g) := by
  obtain ⟨cl, A, -, S, -, H, -⟩ := V
  exact own_go (fun t q => X.laload hx (j := j) (v := v) (by rw [eT]; exact A.1) (State.isArrayOf_alike hZ.alike A.2.1) A.2.2 (inb_of S hj) (Has.at H (inb_of S hj) hv) hg hs hd t q) r
theorem own_caload (X : Stand p l e R s m args below meth c T locs cells slots) (hx : p.tables.exec = Jvm.exec) (hZ : Z.Warmed39 s.vm) (eT : T.heap = h) {a : Addr} {k : ClassId} {z j : Int32} {vs : List Value} {dv v : Value} (V : Arv Z h a k .char z vs dv) (hj : ¬ j < 0 ∧ j < z) (hv : vs.getD j.toNatClampNeg dv = v)
    {g : JFrame} (hg : g.method = m) {rest : List Value} (hs : g.stack = .int j :: .ref a :: rest) (hd : decode c.code g.pc = .ok (.caload, 1)) (r : own_Run p e below Φ (T.setTop { g with pc := g.pc + 1, stack := v :: rest })) : own_Run p e below Φ (T.setTop g) := by
  obtain ⟨cl, A, -, S, -, H, -⟩ := V
  exact own_go (fun t q => X.caload hx (j := j) (v := v) (by rw [eT]; exact A.1) (State.isArrayOf_alike hZ.alike A.2.1) A.2.2 (inb_of S hj) (Has.at H (inb_of S hj) hv) hg hs hd t q) r
theorem own_baload (X : Stand p l e R s m args below meth c T locs cells slots) (hx : p.tables.exec = Jvm.exec) (hZ : Z.Warmed39 s.vm) (eT : T.heap = h) {a : Addr} {k : ClassId} {z j : Int32} {vs : List Value} {dv v : Value} (V : Arv Z h a k .byte z vs dv) (hj : ¬ j < 0 ∧ j < z) (hv : vs.getD j.toNatClampNeg dv = v)
    {g : JFrame} (hg : g.method = m) {rest : List Value} (hs : g.stack = .int j :: .ref a :: rest) (hd : decode c.code g.pc = .ok (.baload, 1)) (r : own_Run p e below Φ (T.setTop { g with pc := g.pc + 1, stack := v :: rest })) : own_Run p e below Φ (T.setTop g) := by
  obtain ⟨cl, A, -, S, -, H, -⟩ := V
  exact own_go (fun t q => X.baloadBytes hx (j := j) (v := v) (by rw [eT]; exact A.1) (State.isArrayOf_alike hZ.alike A.2.1) A.2.2 (inb_of S hj) (Has.at H (inb_of S hj) hv) hg hs hd t q) r
theorem own_arrlen (X : Stand p l e R s m args below meth c T locs cells slots) (hx : p.tables.exec = Jvm.exec) (hZ : Z.Warmed39 s.vm) (eT : T.heap = h) {a : Addr} {k : ClassId} {ty : FieldType} {z : Int32} {vs : List Value} {dv : Value} (V : Arv Z h a k ty z vs dv)
    {g : JFrame} (hg : g.method = m) {rest : List Value} (hs : g.stack = .ref a :: rest) (hd : decode c.code g.pc = .ok (.arraylength, 1)) (r : own_Run p e below Φ (T.setTop { g with pc := g.pc + 1, stack := .int z :: rest })) : own_Run p e below Φ (T.setTop g) := by
  obtain ⟨cl, A, -, S, M, -, -⟩ := V
  refine own_go (fun t q => X.arraylength hx (by rw [eT]; exact A.1) (State.isArrayOf_alike hZ.alike A.2.1) hg hs hd t q) ?_
  rw [len_of S M]; exact r
/-- arrays: writing -/
theorem own_iastore (X : Stand p l e R s m args below meth c T locs cells slots) (hx : p.tables.exec = Jvm.exec) (hZ : Z.Warmed39 s.vm) (eT : T.heap = h) {a : Addr} {k : ClassId} {z j x : Int32} {vs : List Value} {dv : Value} (V : Arv Z h a k .int z vs dv) (hj : ¬ j < 0 ∧ j < z) (i : Nat) (hi : j.toNatClampNeg = i) (hl : i < vs.length)
    {g : JFrame} (hg : g.method = m) {rest : List Value} (hs : g.stack = .int x :: .int j :: .ref a :: rest) (hd : decode c.code g.pc = .ok (.iastore, 1))
    (r : ∀ T' h', Stand p l e R s m args below meth c T' (locs ++ [⟨a, j.toNatClampNeg⟩]) cells slots → T'.heap = h' → Wr h h' a j.toNatClampNeg (.int x) → Arv Z h' a k .int z (vs.set i (.int x)) dv → own_Run p e below Φ (T'.setTop { g with pc := g.pc + 1, stack := rest })) : own_Run p e below Φ (T.setTop g) := by
  obtain ⟨cl, A, q, S, N, H, G⟩ := V
  obtain ⟨T', h', X', e', W, st⟩ := stI X hx hZ eT A (j := j) (inb_of S hj) hg hs hd
  exact own_go st (r T' h' X' e' W (Arv.set A q S N H G rfl W i hi hl))
theorem own_lastore (X : Stand p l e R s m args below meth c T locs cells slots) (hx : p.tables.exec = Jvm.exec) (hZ : Z.Warmed39 s.vm) (eT : T.heap = h) {a : Addr} {k : ClassId} {z j : Int32} {x : Int64} {vs : List Value} {dv : Value} (V : Arv Z h a k .long z vs dv) (hj : ¬ j < 0 ∧ j < z) (i : Nat) (hi : j.toNatClampNeg = i) (hl : i < vs.length)
    {g : JFrame} (hg : g.method = m) {rest : List Value} (hs : g.stack = .long x :: .int j :: .ref a :: rest) (hd : decode c.code g.pc = .ok (.lastore, 1))
    (r : ∀ T' h', Stand p l e R s m args below meth c T' (locs ++ [⟨a, j.toNatClampNeg⟩]) cells slots → T'.heap = h' → Wr h h' a j.toNatClampNeg (.long x) → Arv Z h' a k .long z (vs.set i (.long x)) dv → own_Run p e below Φ (T'.setTop { g with pc := g.pc + 1, stack := rest })) : own_Run p e below Φ (T.setTop g) := by
  obtain ⟨cl, A, q, S, N, H, G⟩ := V
  obtain ⟨T', h', X', e', W, st⟩ := stJ X hx hZ eT A (j := j) (inb_of S hj) hg hs hd
  exact own_go st (r T' h' X' e' W (Arv.set A q S N H G rfl W i hi hl))
theorem own_bastore (X : Stand p l e R s m args below meth c T locs cells slots) (hx : p.tables.exec = Jvm.exec) (hZ : Z.Warmed39 s.vm) (eT : T.heap = h) {a : Addr} {k : ClassId} {z j x : Int32} {vs : List Value} {dv : Value} (V : Arv Z h a k .byte z vs dv) (hj : ¬ j < 0 ∧ j < z) (i : Nat) (hi : j.toNatClampNeg = i) (hl : i < vs.length)
    {g : JFrame} (hg : g.method = m) {rest : List Value} (hs : g.stack = .int x :: .int j :: .ref a :: rest) (hd : decode c.code g.pc = .ok (.bastore, 1))
    (r : ∀ T' h', Stand p l e R s m args below meth c T' (locs ++ [⟨a, j.toNatClampNeg⟩]) cells slots → T'.heap = h' → Wr h h' a j.toNatClampNeg (.int x.toInt8.toInt32) → Arv Z h' a k .byte z (vs.set i (.int x.toInt8.toInt32)) dv → own_Run p e below Φ (T'.setTop { g with pc := g.pc + 1, stack := rest })) : own_Run p e below Φ (T.setTop g) := by
  obtain ⟨cl, A, q, S, N, H, G⟩ := V
  obtain ⟨T', h', X', e', W, st⟩ := stB X hx hZ eT A (j := j) (inb_of S hj) hg hs hd
  exact own_go st (r T' h' X' e' W (Arv.set A q S N H G (fits_nar_byte _) W i hi hl))
theorem own_castore (X : Stand p l e R s m args below meth c T locs cells slots) (hx : p.tables.exec = Jvm.exec) (hZ : Z.Warmed39 s.vm) (eT : T.heap = h) {a : Addr} {k : ClassId} {z j x : Int32} {vs : List Value} {dv : Value} (V : Arv Z h a k .char z vs dv) (hj : ¬ j < 0 ∧ j < z) (i : Nat) (hi : j.toNatClampNeg = i) (hl : i < vs.length)
    {g : JFrame} (hg : g.method = m) {rest : List Value} (hs : g.stack = .int x :: .int j :: .ref a :: rest) (hd : decode c.code g.pc = .ok (.castore, 1))
    (r : ∀ T' h', Stand p l e R s m args below meth c T' (locs ++ [⟨a, j.toNatClampNeg⟩]) cells slots → T'.heap = h' → Wr h h' a j.toNatClampNeg (.int (nar .char x)) → Arv Z h' a k .char z (vs.set i (.int (nar .char x))) dv → own_Run p e below Φ (T'.setTop { g with pc := g.pc + 1, stack := rest })) : own_Run p e below Φ (T.setTop g) := by
  obtain ⟨cl, A, q, S, N, H, G⟩ := V
  obtain ⟨T', h', X', e', W, st⟩ := stC X hx hZ eT A (j := j) (inb_of S hj) hg hs hd
  exact own_go st (r T' h' X' e' W (Arv.set A q S N H G (fits_nar_char _) W i hi hl))
theorem own_newP (X : Stand p l e R s m args below meth c T locs cells slots) (hx : p.tables.exec = Jvm.exec) (hZ : Z.Warmed39 s.vm) {aty : ArrayType} (w : (Jvm.Cond.arrayClass (newarray.typeOf aty)).before a0 Z = true) (eT : T.heap = h) {g : JFrame} (hg : g.method = m) (hd : decode c.code g.pc = .ok (.newarray aty, 2)) {n : Int32} {rest : List Value} (hs : g.stack = .int n :: rest)
    (hn : ¬ n < 0) (cap : Nat) (hcap : n.toNatClampNeg ≤ cap) (hb : cap * 8 ≤ 536870912) (hc : cells + 1 ≤ R.cells) (hl : slots + cap ≤ R.slots) (N : Nat)
    (r : ∀ T' h' cA a, Stand p l e R s m args below meth c T' locs (cells + 1) (slots + cap) → T'.heap = h' → Ext h h' → a = h.size → Arv Z h' a cA (newarray.typeOf aty) n (List.replicate N (defaultValue (newarray.typeOf aty))) (defaultValue (newarray.typeOf aty)) → own_Run p e below Φ (T'.setTop { g with pc := g.pc + 2, stack := .ref a :: rest })) : own_Run p e below Φ (T.setTop g) := by
  obtain ⟨T', h', cA, X', e', E, A, st⟩ := newP X hx hZ w eT hg hd hs hn hcap hb hc hl
  have V := Arv.new A hn
  have q : ∀ i, (List.replicate N (defaultValue (newarray.typeOf aty))).getD i (defaultValue (newarray.typeOf aty)) = ([] : List Value).getD i (defaultValue (newarray.typeOf aty)) := pad_rep [] (defaultValue (newarray.typeOf aty)) N
  exact own_go st (r T' h' cA h.size X' e' E rfl (V.pad q))
theorem own_le {a b c d : Nat} (h1 : a ≤ b) (h2 : b + c ≤ d) : a + c ≤ d := Nat.le_trans (Nat.add_le_add_right h1 c) h2
/-- the case's words on statics -/
theorem own_eqI {args : Array Value} {first s : State} {o : Option Outcome} {idx : List Nat} {t : Term} {k : Int32} (h : (Jvm.Cond.eq t (.int k)).value args first o s idx = some true) : t.eval args first o idx s = some (.int k) := by
  cases ht : t.eval args first o idx s with
  | none => simp [Cond.value, ht] at h
  | some x => cases x <;> simp [Cond.value, Term.eval, ht] at h ⊢; exact h
theorem own_fldI {args : Array Value} {t : Term} {x : Addr} {C n d : String} {k : Int32} (ht : t.eval args Z none [] Z = some (.ref x)) (h : (Jvm.Cond.eq (.field t C n d) (.int k)).value args Z none Z [] = some true) : Fld Z Z.heap x C n d (.int k) := Fld.start ((fld_at ht).symm.trans (own_eqI h))
end OwnRun
theorem own_b8 (x : Int32) : x.toInt8.toInt32.toInt8.toInt32 = x.toInt8.toInt32 := by simp
theorem own_fin {x : Int32} {lo : Int} {k : Nat} (h1 : lo ≤ x.toInt) (h2 : x.toInt < lo + k) : ∃ i : Fin k, x = Int32.ofInt (lo + (i.1 : Int)) :=
  ⟨⟨(x.toInt - lo).toNat, by omega⟩, by rw [show lo + (((x.toInt - lo).toNat : Nat) : Int) = x.toInt by omega]; exact (Int32.ofInt_toInt x).symm⟩
def own_O (o : Int32) : Prop := o = (0 : Int32) ∨ o = (1 : Int32) ∨ o = (2 : Int32) ∨ o = (3 : Int32)
theorem own_and3 (x : Int32) : own_O (x &&& (3 : Int32)) := by
  have h := c_mask x 3 2 (by decide) (by decide)
  simp only [own_O, ← Int32.toInt_inj, Int32.reduceToInt]
  omega
theorem own_o0 {o : Int32} (h : own_O o) : ¬ o < 0 ∧ o < (8 : Int32) := by rcases h with rfl | rfl | rfl | rfl <;> decide
theorem own_o1 {o : Int32} (h : own_O o) : ¬ (o + (1 : Int32)) < 0 ∧ (o + (1 : Int32)) < (8 : Int32) := by rcases h with rfl | rfl | rfl | rfl <;> decide
theorem own_o2 {o : Int32} (h : own_O o) : ¬ (o + (2 : Int32)) < 0 ∧ (o + (2 : Int32)) < (8 : Int32) := by rcases h with rfl | rfl | rfl | rfl <;> decide
theorem own_o3 {o : Int32} (h : own_O o) : ¬ (o + (3 : Int32)) < 0 ∧ (o + (3 : Int32)) < (8 : Int32) := by rcases h with rfl | rfl | rfl | rfl <;> decide
theorem own_i0 {o : Int32} (h : own_O o) : o.toNatClampNeg < 8 := by rcases h with rfl | rfl | rfl | rfl <;> decide
theorem own_i1 {o : Int32} (h : own_O o) : (o + (1 : Int32)).toNatClampNeg < 8 := by rcases h with rfl | rfl | rfl | rfl <;> decide
theorem own_i2 {o : Int32} (h : own_O o) : (o + (2 : Int32)).toNatClampNeg < 8 := by rcases h with rfl | rfl | rfl | rfl <;> decide
theorem own_i3 {o : Int32} (h : own_O o) : (o + (3 : Int32)).toNatClampNeg < 8 := by rcases h with rfl | rfl | rfl | rfl <;> decide
def own_z (f : Int32) : List Value := [.int f, .int f, .int f, .int f, .int f, .int f, .int f, .int f]
def own_v1 (f o x0 : Int32) : List Value := (own_z f).set o.toNatClampNeg (.int x0)
def own_v2 (f o x0 x1 : Int32) : List Value := (own_v1 f o x0).set (o + (1 : Int32)).toNatClampNeg (.int x1)
def own_v3 (f o x0 x1 x2 : Int32) : List Value := (own_v2 f o x0 x1).set (o + (2 : Int32)).toNatClampNeg (.int x2)
def own_v4 (f o x0 x1 x2 x3 : Int32) : List Value := (own_v3 f o x0 x1 x2).set (o + (3 : Int32)).toNatClampNeg (.int x3)
theorem own_l0 (f : Int32) : (own_z f).length = 8 := rfl
theorem own_l1 (f o x0 : Int32) : (own_v1 f o x0).length = 8 := by rw [own_v1, List.length_set]; rfl
theorem own_l2 (f o x0 x1 : Int32) : (own_v2 f o x0 x1).length = 8 := by rw [own_v2, List.length_set]; exact own_l1 _ _ _
theorem own_l3 (f o x0 x1 x2 : Int32) : (own_v3 f o x0 x1 x2).length = 8 := by rw [own_v3, List.length_set]; exact own_l2 _ _ _ _
theorem own_g10 {f o x0 d : Int32} (h : own_O o) : (own_v1 f o x0).getD o.toNatClampNeg (.int d) = .int x0 := by rcases h with rfl | rfl | rfl | rfl <;> rfl
theorem own_g20 {f o x0 x1 d : Int32} (h : own_O o) : (own_v2 f o x0 x1).getD o.toNatClampNeg (.int d) = .int x0 := by rcases h with rfl | rfl | rfl | rfl <;> rfl
theorem own_g21 {f o x0 x1 d : Int32} (h : own_O o) : (own_v2 f o x0 x1).getD (o + (1 : Int32)).toNatClampNeg (.int d) = .int x1 := by rcases h with rfl | rfl | rfl | rfl <;> rfl
theorem own_g30 {f o x0 x1 x2 d : Int32} (h : own_O o) : (own_v3 f o x0 x1 x2).getD o.toNatClampNeg (.int d) = .int x0 := by rcases h with rfl | rfl | rfl | rfl <;> rfl
theorem own_g31 {f o x0 x1 x2 d : Int32} (h : own_O o) : (own_v3 f o x0 x1 x2).getD (o + (1 : Int32)).toNatClampNeg (.int d) = .int x1 := by rcases h with rfl | rfl | rfl | rfl <;> rfl
theorem own_g32 {f o x0 x1 x2 d : Int32} (h : own_O o) : (own_v3 f o x0 x1 x2).getD (o + (2 : Int32)).toNatClampNeg (.int d) = .int x2 := by rcases h with rfl | rfl | rfl | rfl <;> rfl
theorem own_g40 {f o x0 x1 x2 x3 d : Int32} (h : own_O o) : (own_v4 f o x0 x1 x2 x3).getD o.toNatClampNeg (.int d) = .int x0 := by rcases h with rfl | rfl | rfl | rfl <;> rfl
theorem own_g41 {f o x0 x1 x2 x3 d : Int32} (h : own_O o) : (own_v4 f o x0 x1 x2 x3).getD (o + (1 : Int32)).toNatClampNeg (.int d) = .int x1 := by rcases h with rfl | rfl | rfl | rfl <;> rfl
theorem own_g42 {f o x0 x1 x2 x3 d : Int32} (h : own_O o) : (own_v4 f o x0 x1 x2 x3).getD (o + (2 : Int32)).toNatClampNeg (.int d) = .int x2 := by rcases h with rfl | rfl | rfl | rfl <;> rfl
theorem own_g43 {f o x0 x1 x2 x3 d : Int32} (h : own_O o) : (own_v4 f o x0 x1 x2 x3).getD (o + (3 : Int32)).toNatClampNeg (.int d) = .int x3 := by rcases h with rfl | rfl | rfl | rfl <;> rfl
theorem own_k10 {f o x0 d : Int32} (h : own_O o) : ((0 : Int32) < o ∨ ¬ (0 : Int32) < o + (1 : Int32)) → (own_v1 f o x0).getD (0 : Int32).toNatClampNeg (.int d) = .int f := by rcases h with rfl | rfl | rfl | rfl <;> first | (intro _; rfl) | (intro q; exact absurd q (by decide))
theorem own_k11 {f o x0 d : Int32} (h : own_O o) : ((1 : Int32) < o ∨ ¬ (1 : Int32) < o + (1 : Int32)) → (own_v1 f o x0).getD (1 : Int32).toNatClampNeg (.int d) = .int f := by rcases h with rfl | rfl | rfl | rfl <;> first | (intro _; rfl) | (intro q; exact absurd q (by decide))
theorem own_k12 {f o x0 d : Int32} (h : own_O o) : ((2 : Int32) < o ∨ ¬ (2 : Int32) < o + (1 : Int32)) → (own_v1 f o x0).getD (2 : Int32).toNatClampNeg (.int d) = .int f := by rcases h with rfl | rfl | rfl | rfl <;> first | (intro _; rfl) | (intro q; exact absurd q (by decide))
theorem own_k13 {f o x0 d : Int32} (h : own_O o) : ((3 : Int32) < o ∨ ¬ (3 : Int32) < o + (1 : Int32)) → (own_v1 f o x0).getD (3 : Int32).toNatClampNeg (.int d) = .int f := by rcases h with rfl | rfl | rfl | rfl <;> first | (intro _; rfl) | (intro q; exact absurd q (by decide))
theorem own_k14 {f o x0 d : Int32} (h : own_O o) : ((4 : Int32) < o ∨ ¬ (4 : Int32) < o + (1 : Int32)) → (own_v1 f o x0).getD (4 : Int32).toNatClampNeg (.int d) = .int f := by rcases h with rfl | rfl | rfl | rfl <;> first | (intro _; rfl) | (intro q; exact absurd q (by decide))
theorem own_k15 {f o x0 d : Int32} (h : own_O o) : ((5 : Int32) < o ∨ ¬ (5 : Int32) < o + (1 : Int32)) → (own_v1 f o x0).getD (5 : Int32).toNatClampNeg (.int d) = .int f := by rcases h with rfl | rfl | rfl | rfl <;> first | (intro _; rfl) | (intro q; exact absurd q (by decide))
theorem own_k16 {f o x0 d : Int32} (h : own_O o) : ((6 : Int32) < o ∨ ¬ (6 : Int32) < o + (1 : Int32)) → (own_v1 f o x0).getD (6 : Int32).toNatClampNeg (.int d) = .int f := by rcases h with rfl | rfl | rfl | rfl <;> first | (intro _; rfl) | (intro q; exact absurd q (by decide))
theorem own_k17 {f o x0 d : Int32} (h : own_O o) : ((7 : Int32) < o ∨ ¬ (7 : Int32) < o + (1 : Int32)) → (own_v1 f o x0).getD (7 : Int32).toNatClampNeg (.int d) = .int f := by rcases h with rfl | rfl | rfl | rfl <;> first | (intro _; rfl) | (intro q; exact absurd q (by decide))
theorem own_k20 {f o x0 x1 d : Int32} (h : own_O o) : ((0 : Int32) < o ∨ ¬ (0 : Int32) < o + (2 : Int32)) → (own_v2 f o x0 x1).getD (0 : Int32).toNatClampNeg (.int d) = .int f := by rcases h with rfl | rfl | rfl | rfl <;> first | (intro _; rfl) | (intro q; exact absurd q (by decide))
theorem own_k21 {f o x0 x1 d : Int32} (h : own_O o) : ((1 : Int32) < o ∨ ¬ (1 : Int32) < o + (2 : Int32)) → (own_v2 f o x0 x1).getD (1 : Int32).toNatClampNeg (.int d) = .int f := by rcases h with rfl | rfl | rfl | rfl <;> first | (intro _; rfl) | (intro q; exact absurd q (by decide))
theorem own_k22 {f o x0 x1 d : Int32} (h : own_O o) : ((2 : Int32) < o ∨ ¬ (2 : Int32) < o + (2 : Int32)) → (own_v2 f o x0 x1).getD (2 : Int32).toNatClampNeg (.int d) = .int f := by rcases h with rfl | rfl | rfl | rfl <;> first | (intro _; rfl) | (intro q; exact absurd q (by decide))
theorem own_k23 {f o x0 x1 d : Int32} (h : own_O o) : ((3 : Int32) < o ∨ ¬ (3 : Int32) < o + (2 : Int32)) → (own_v2 f o x0 x1).getD (3 : Int32).toNatClampNeg (.int d) = .int f := by rcases h with rfl | rfl | rfl | rfl <;> first | (intro _; rfl) | (intro q; exact absurd q (by decide))
theorem own_k24 {f o x0 x1 d : Int32} (h : own_O o) : ((4 : Int32) < o ∨ ¬ (4 : Int32) < o + (2 : Int32)) → (own_v2 f o x0 x1).getD (4 : Int32).toNatClampNeg (.int d) = .int f := by rcases h with rfl | rfl | rfl | rfl <;> first | (intro _; rfl) | (intro q; exact absurd q (by decide))
theorem own_k25 {f o x0 x1 d : Int32} (h : own_O o) : ((5 : Int32) < o ∨ ¬ (5 : Int32) < o + (2 : Int32)) → (own_v2 f o x0 x1).getD (5 : Int32).toNatClampNeg (.int d) = .int f := by rcases h with rfl | rfl | rfl | rfl <;> first | (intro _; rfl) | (intro q; exact absurd q (by decide))
theorem own_k26 {f o x0 x1 d : Int32} (h : own_O o) : ((6 : Int32) < o ∨ ¬ (6 : Int32) < o + (2 : Int32)) → (own_v2 f o x0 x1).getD (6 : Int32).toNatClampNeg (.int d) = .int f := by rcases h with rfl | rfl | rfl | rfl <;> first | (intro _; rfl) | (intro q; exact absurd q (by decide))
theorem own_k27 {f o x0 x1 d : Int32} (h : own_O o) : ((7 : Int32) < o ∨ ¬ (7 : Int32) < o + (2 : Int32)) → (own_v2 f o x0 x1).getD (7 : Int32).toNatClampNeg (.int d) = .int f := by rcases h with rfl | rfl | rfl | rfl <;> first | (intro _; rfl) | (intro q; exact absurd q (by decide))
theorem own_k30 {f o x0 x1 x2 d : Int32} (h : own_O o) : ((0 : Int32) < o ∨ ¬ (0 : Int32) < o + (3 : Int32)) → (own_v3 f o x0 x1 x2).getD (0 : Int32).toNatClampNeg (.int d) = .int f := by rcases h with rfl | rfl | rfl | rfl <;> first | (intro _; rfl) | (intro q; exact absurd q (by decide))
theorem own_k31 {f o x0 x1 x2 d : Int32} (h : own_O o) : ((1 : Int32) < o ∨ ¬ (1 : Int32) < o + (3 : Int32)) → (own_v3 f o x0 x1 x2).getD (1 : Int32).toNatClampNeg (.int d) = .int f := by rcases h with rfl | rfl | rfl | rfl <;> first | (intro _; rfl) | (intro q; exact absurd q (by decide))
theorem own_k32 {f o x0 x1 x2 d : Int32} (h : own_O o) : ((2 : Int32) < o ∨ ¬ (2 : Int32) < o + (3 : Int32)) → (own_v3 f o x0 x1 x2).getD (2 : Int32).toNatClampNeg (.int d) = .int f := by rcases h with rfl | rfl | rfl | rfl <;> first | (intro _; rfl) | (intro q; exact absurd q (by decide))
theorem own_k33 {f o x0 x1 x2 d : Int32} (h : own_O o) : ((3 : Int32) < o ∨ ¬ (3 : Int32) < o + (3 : Int32)) → (own_v3 f o x0 x1 x2).getD (3 : Int32).toNatClampNeg (.int d) = .int f := by rcases h with rfl | rfl | rfl | rfl <;> first | (intro _; rfl) | (intro q; exact absurd q (by decide))
theorem own_k34 {f o x0 x1 x2 d : Int32} (h : own_O o) : ((4 : Int32) < o ∨ ¬ (4 : Int32) < o + (3 : Int32)) → (own_v3 f o x0 x1 x2).getD (4 : Int32).toNatClampNeg (.int d) = .int f := by rcases h with rfl | rfl | rfl | rfl <;> first | (intro _; rfl) | (intro q; exact absurd q (by decide))
theorem own_k35 {f o x0 x1 x2 d : Int32} (h : own_O o) : ((5 : Int32) < o ∨ ¬ (5 : Int32) < o + (3 : Int32)) → (own_v3 f o x0 x1 x2).getD (5 : Int32).toNatClampNeg (.int d) = .int f := by rcases h with rfl | rfl | rfl | rfl <;> first | (intro _; rfl) | (intro q; exact absurd q (by decide))
theorem own_k36 {f o x0 x1 x2 d : Int32} (h : own_O o) : ((6 : Int32) < o ∨ ¬ (6 : Int32) < o + (3 : Int32)) → (own_v3 f o x0 x1 x2).getD (6 : Int32).toNatClampNeg (.int d) = .int f := by rcases h with rfl | rfl | rfl | rfl <;> first | (intro _; rfl) | (intro q; exact absurd q (by decide))
theorem own_k37 {f o x0 x1 x2 d : Int32} (h : own_O o) : ((7 : Int32) < o ∨ ¬ (7 : Int32) < o + (3 : Int32)) → (own_v3 f o x0 x1 x2).getD (7 : Int32).toNatClampNeg (.int d) = .int f := by rcases h with rfl | rfl | rfl | rfl <;> first | (intro _; rfl) | (intro q; exact absurd q (by decide))
theorem own_k40 {f o x0 x1 x2 x3 d : Int32} (h : own_O o) : ((0 : Int32) < o ∨ ¬ (0 : Int32) < o + (4 : Int32)) → (own_v4 f o x0 x1 x2 x3).getD (0 : Int32).toNatClampNeg (.int d) = .int f := by rcases h with rfl | rfl | rfl | rfl <;> first | (intro _; rfl) | (intro q; exact absurd q (by decide))
theorem own_k41 {f o x0 x1 x2 x3 d : Int32} (h : own_O o) : ((1 : Int32) < o ∨ ¬ (1 : Int32) < o + (4 : Int32)) → (own_v4 f o x0 x1 x2 x3).getD (1 : Int32).toNatClampNeg (.int d) = .int f := by rcases h with rfl | rfl | rfl | rfl <;> first | (intro _; rfl) | (intro q; exact absurd q (by decide))
theorem own_k42 {f o x0 x1 x2 x3 d : Int32} (h : own_O o) : ((2 : Int32) < o ∨ ¬ (2 : Int32) < o + (4 : Int32)) → (own_v4 f o x0 x1 x2 x3).getD (2 : Int32).toNatClampNeg (.int d) = .int f := by rcases h with rfl | rfl | rfl | rfl <;> first | (intro _; rfl) | (intro q; exact absurd q (by decide))
theorem own_k43 {f o x0 x1 x2 x3 d : Int32} (h : own_O o) : ((3 : Int32) < o ∨ ¬ (3 : Int32) < o + (4 : Int32)) → (own_v4 f o x0 x1 x2 x3).getD (3 : Int32).toNatClampNeg (.int d) = .int f := by rcases h with rfl | rfl | rfl | rfl <;> first | (intro _; rfl) | (intro q; exact absurd q (by decide))
theorem own_k44 {f o x0 x1 x2 x3 d : Int32} (h : own_O o) : ((4 : Int32) < o ∨ ¬ (4 : Int32) < o + (4 : Int32)) → (own_v4 f o x0 x1 x2 x3).getD (4 : Int32).toNatClampNeg (.int d) = .int f := by rcases h with rfl | rfl | rfl | rfl <;> first | (intro _; rfl) | (intro q; exact absurd q (by decide))
theorem own_k45 {f o x0 x1 x2 x3 d : Int32} (h : own_O o) : ((5 : Int32) < o ∨ ¬ (5 : Int32) < o + (4 : Int32)) → (own_v4 f o x0 x1 x2 x3).getD (5 : Int32).toNatClampNeg (.int d) = .int f := by rcases h with rfl | rfl | rfl | rfl <;> first | (intro _; rfl) | (intro q; exact absurd q (by decide))
theorem own_k46 {f o x0 x1 x2 x3 d : Int32} (h : own_O o) : ((6 : Int32) < o ∨ ¬ (6 : Int32) < o + (4 : Int32)) → (own_v4 f o x0 x1 x2 x3).getD (6 : Int32).toNatClampNeg (.int d) = .int f := by rcases h with rfl | rfl | rfl | rfl <;> first | (intro _; rfl) | (intro q; exact absurd q (by decide))
theorem own_k47 {f o x0 x1 x2 x3 d : Int32} (h : own_O o) : ((7 : Int32) < o ∨ ¬ (7 : Int32) < o + (4 : Int32)) → (own_v4 f o x0 x1 x2 x3).getD (7 : Int32).toNatClampNeg (.int d) = .int f := by rcases h with rfl | rfl | rfl | rfl <;> first | (intro _; rfl) | (intro q; exact absurd q (by decide))
def own_lst (c l : Int32) : Int32 := if c < l then (-1 : Int32) else if c < (55296 : Int32) then (if (1114111 : Int32) < c then (-1 : Int32) else c) else if (57343 : Int32) < c then (if (1114111 : Int32) < c then (-1 : Int32) else c) else (-1 : Int32)
def own_c2 (x0 x1 : Int32) : Int32 := (((x0 &&& (31 : Int32)) <<< ((6 : Int32) &&& 31)) ||| (x1 &&& (63 : Int32)))
def own_c3 (x0 x1 x2 : Int32) : Int32 := (((((x0 &&& (15 : Int32)) <<< ((6 : Int32) &&& 31)) ||| (x1 &&& (63 : Int32))) <<< ((6 : Int32) &&& 31)) ||| (x2 &&& (63 : Int32)))
def own_c4 (x0 x1 x2 x3 : Int32) : Int32 := (((((((x0 &&& (7 : Int32)) <<< ((6 : Int32) &&& 31)) ||| (x1 &&& (63 : Int32))) <<< ((6 : Int32) &&& 31)) ||| (x2 &&& (63 : Int32))) <<< ((6 : Int32) &&& 31)) ||| (x3 &&& (63 : Int32)))
def own_dec2 (x0 x1 : Int32) : Int32 := if (x1 &&& (192 : Int32)) = (128 : Int32) then own_lst (own_c2 x0 x1) (128 : Int32) else (-1 : Int32)
def own_dec3 (x0 x1 x2 : Int32) : Int32 := if (x1 &&& (192 : Int32)) = (128 : Int32) then (if (x2 &&& (192 : Int32)) = (128 : Int32) then own_lst (own_c3 x0 x1 x2) (2048 : Int32) else (-1 : Int32)) else (-1 : Int32)
def own_dec4 (x0 x1 x2 x3 : Int32) : Int32 := if (x1 &&& (192 : Int32)) = (128 : Int32) then (if (x2 &&& (192 : Int32)) = (128 : Int32) then (if (x3 &&& (192 : Int32)) = (128 : Int32) then own_lst (own_c4 x0 x1 x2 x3) (65536 : Int32) else (-1 : Int32)) else (-1 : Int32)) else (-1 : Int32)
theorem own_len {Z : State} {args : Array Value} {t : Term} {x : Addr} {c : Cell} {ty : FieldType} {k : Int32} (ht : t.eval args Z none [] Z = some (.ref x)) (A : Arr Z Z.heap x c ty) (h : (Jvm.Cond.eq (.length t) (.int k)).value args Z none Z [] = some true) : c.slots.size = k.toNatClampNeg ∧ c.slots.size < 2 ^ 31 ∧ c.slots.size.toInt32 = k := by
  have e := own_eqI h
  have a := A.fin (Vm.Alike.refl Z.vm)
  by_cases q : c.slots.size < 2 ^ 31
  · rw [len_f ht a q] at e
    have e2 : c.slots.size.toInt32 = k := Value.int.inj (Option.some.inj e)
    refine ⟨?_, q, e2⟩
    rw [← e2]; simp only [Int32.toNatClampNeg, len_toInt q]; rfl
  · simp [Term.eval, ht, a, q] at e
def own_in (c l u : Int32) : Int32 := if c < l then (0 : Int32) else if u < c then (0 : Int32) else (1 : Int32)
theorem own_l3c (x : Int32) : ((2 : Int32) + (x &&& (2147483647 : Int32)) % (3 : Int32)) = (2 : Int32) ∨ ((2 : Int32) + (x &&& (2147483647 : Int32)) % (3 : Int32)) = (3 : Int32) ∨ ((2 : Int32) + (x &&& (2147483647 : Int32)) % (3 : Int32)) = (4 : Int32) := by
  have h := c_mask x 2147483647 31 (by decide) (by decide)
  have h2 := (c_irem (x &&& (2147483647 : Int32)) 3 3 (by decide)).1 (by omega)
  have h3 := c_iadd (2 : Int32) ((x &&& (2147483647 : Int32)) % (3 : Int32))
  have h4 := rng32 ((2 : Int32) + (x &&& (2147483647 : Int32)) % (3 : Int32))
  simp only [← Int32.toInt_inj, Int32.reduceToInt] at *
  omega
theorem own_f2 (x : Int32) : 194 ≤ ((194 : Int32) + (x &&& (2147483647 : Int32)) % (30 : Int32)).toInt ∧ ((194 : Int32) + (x &&& (2147483647 : Int32)) % (30 : Int32)).toInt ≤ 223 := by
  have h := c_mask x 2147483647 31 (by decide) (by decide)
  have h2 := (c_irem (x &&& (2147483647 : Int32)) 30 30 (by decide)).1 (by omega)
  have h3 := c_iadd (194 : Int32) ((x &&& (2147483647 : Int32)) % (30 : Int32))
  have h4 := rng32 ((194 : Int32) + (x &&& (2147483647 : Int32)) % (30 : Int32))
  simp only [Int32.reduceToInt] at *
  omega
theorem own_f3 (x : Int32) : 224 ≤ ((224 : Int32) + (x &&& (15 : Int32))).toInt ∧ ((224 : Int32) + (x &&& (15 : Int32))).toInt ≤ 239 := by
  have h := c_mask x 15 4 (by decide) (by decide)
  have h3 := c_iadd (224 : Int32) (x &&& (15 : Int32))
  have h4 := rng32 ((224 : Int32) + (x &&& (15 : Int32)))
  simp only [Int32.reduceToInt] at *
  omega
theorem own_f4 (x : Int32) : 240 ≤ ((240 : Int32) + (x &&& (2147483647 : Int32)) % (5 : Int32)).toInt ∧ ((240 : Int32) + (x &&& (2147483647 : Int32)) % (5 : Int32)).toInt ≤ 244 := by
  have h := c_mask x 2147483647 31 (by decide) (by decide)
  have h2 := (c_irem (x &&& (2147483647 : Int32)) 5 5 (by decide)).1 (by omega)
  have h3 := c_iadd (240 : Int32) ((x &&& (2147483647 : Int32)) % (5 : Int32))
  have h4 := rng32 ((240 : Int32) + (x &&& (2147483647 : Int32)) % (5 : Int32))
  simp only [Int32.reduceToInt] at *
  omega
theorem own_255 (x : Int32) : 0 ≤ (x &&& (255 : Int32)).toInt ∧ (x &&& (255 : Int32)).toInt ≤ 255 := by
  have h := c_mask x 255 8 (by decide) (by decide); omega
theorem own_tc : ∀ i : Fin 256, (((Int32.ofInt (0 + (i.1 : Int))).toInt8.toInt32 &&& (192 : Int32)) = (128 : Int32) ↔ ¬ (Int32.ofInt (0 + (i.1 : Int)) < (128 : Int32) ∨ (191 : Int32) < Int32.ofInt (0 + (i.1 : Int)))) ∧ (Int32.ofInt (0 + (i.1 : Int))).toInt8.toInt32 &&& (63 : Int32) = Int32.ofInt (0 + (i.1 : Int)) &&& (63 : Int32) := by decide +kernel
theorem own_cc {c : Int32} (h1 : 0 ≤ c.toInt) (h2 : c.toInt ≤ 255) : ((c.toInt8.toInt32 &&& (192 : Int32)) = (128 : Int32) ↔ 128 ≤ c.toInt ∧ c.toInt ≤ 191) ∧ c.toInt8.toInt32 &&& (63 : Int32) = c &&& (63 : Int32) := by
  obtain ⟨i, hi⟩ := own_fin (x := c) (lo := 0) (k := 256) h1 (by omega)
  have t := own_tc i
  rw [← hi] at t
  refine ⟨t.1.trans ?_, t.2⟩
  simp only [Int32.lt_iff_toInt_lt, Int32.reduceToInt]; omega
theorem own_inV (c l u : Int32) : (own_in c l u = 0 ↔ ¬ (l.toInt ≤ c.toInt ∧ c.toInt ≤ u.toInt)) := by
  unfold own_in
  simp only [Int32.lt_iff_toInt_lt]
  repeat' split
  all_goals simp; omega
theorem own_low (f m : Int32) (k : Nat) (hk : k ≤ 8) (hm : m.toBitVec.toNat = 2 ^ k - 1) : f.toInt8.toInt32 &&& m = f &&& m := by
  apply Int32.toInt_inj.mp
  rw [c_mask _ m k (by omega) hm, c_mask _ m k (by omega) hm]
  have h := (c_i2b f).1
  have : (((2 : Nat) ^ k : Nat) : Int) ∣ 256 := by
    have : (256 : Int) = ((2 ^ k * 2 ^ (8 - k) : Nat) : Int) := by rw [← Nat.pow_add, show k + (8 - k) = 8 by omega]; rfl
    rw [this]; exact Int.natCast_dvd_natCast.mpr (Nat.dvd_mul_right _ _)
  have h2 : (((2 : Nat) ^ k : Nat) : Int) ∣ f.toInt8.toInt32.toInt - f.toInt := Int.dvd_trans this (Int.dvd_of_emod_eq_zero h)
  exact Int.emod_eq_emod_iff_emod_sub_eq_zero.mpr (Int.emod_eq_zero_of_dvd h2)
/-- numbers put together of bits -/
theorem own_V2 {A B : Int32} (a1 : 0 ≤ A.toInt) (a2 : A.toInt ≤ 31) (b1 : 0 ≤ B.toInt) (b2 : B.toInt ≤ 63) : ((A <<< ((6 : Int32) &&& 31)) ||| B).toInt = A.toInt * 64 + B.toInt := by
  have s := c_ishl A 6 6 (by decide)
  have r1 := rng32 (A <<< ((6 : Int32) &&& 31))
  have o := c_or (A <<< ((6 : Int32) &&& 31)) B 6 (by decide) 64 (by decide) (by omega) b1 (by omega)
  have r2 := rng32 ((A <<< ((6 : Int32) &&& 31)) ||| B)
  omega
theorem own_V6 {A B : Int32} (a1 : 0 ≤ A.toInt) (a2 : A.toInt ≤ 33554431) (b1 : 0 ≤ B.toInt) (b2 : B.toInt ≤ 63) : ((A <<< ((6 : Int32) &&& 31)) ||| B).toInt = A.toInt * 64 + B.toInt := by
  have s := c_ishl A 6 6 (by decide)
  have r1 := rng32 (A <<< ((6 : Int32) &&& 31))
  have o := c_or (A <<< ((6 : Int32) &&& 31)) B 6 (by decide) 64 (by decide) (by omega) b1 (by omega)
  have r2 := rng32 ((A <<< ((6 : Int32) &&& 31)) ||| B)
  omega
theorem own_W3 {A B D : Int32} (a1 : 0 ≤ A.toInt) (a2 : A.toInt ≤ 15) (b1 : 0 ≤ B.toInt) (b2 : B.toInt ≤ 63) (d1 : 0 ≤ D.toInt) (d2 : D.toInt ≤ 63) : (((A <<< ((12 : Int32) &&& 31)) ||| (B <<< ((6 : Int32) &&& 31))) ||| D).toInt = A.toInt * 4096 + B.toInt * 64 + D.toInt := by
  have s := c_ishl A 12 12 (by decide)
  have t := c_ishl B 6 6 (by decide)
  have r1 := rng32 (A <<< ((12 : Int32) &&& 31))
  have r0 := rng32 (B <<< ((6 : Int32) &&& 31))
  have o := c_or (A <<< ((12 : Int32) &&& 31)) (B <<< ((6 : Int32) &&& 31)) 12 (by decide) 4096 (by decide) (by omega) (by omega) (by omega)
  have r2 := rng32 ((A <<< ((12 : Int32) &&& 31)) ||| (B <<< ((6 : Int32) &&& 31)))
  have o2 := c_or ((A <<< ((12 : Int32) &&& 31)) ||| (B <<< ((6 : Int32) &&& 31))) D 6 (by decide) 64 (by decide) (by omega) d1 (by omega)
  have r3 := rng32 (((A <<< ((12 : Int32) &&& 31)) ||| (B <<< ((6 : Int32) &&& 31))) ||| D)
  omega
theorem own_W4 {A B D E : Int32} (a1 : 0 ≤ A.toInt) (a2 : A.toInt ≤ 7) (b1 : 0 ≤ B.toInt) (b2 : B.toInt ≤ 63) (d1 : 0 ≤ D.toInt) (d2 : D.toInt ≤ 63) (f1 : 0 ≤ E.toInt) (f2 : E.toInt ≤ 63) : ((((A <<< ((18 : Int32) &&& 31)) ||| (B <<< ((12 : Int32) &&& 31))) ||| (D <<< ((6 : Int32) &&& 31))) ||| E).toInt = A.toInt * 262144 + B.toInt * 4096 + D.toInt * 64 + E.toInt := by
  have s := c_ishl A 18 18 (by decide)
  have t := c_ishl B 12 12 (by decide)
  have u := c_ishl D 6 6 (by decide)
  have r1 := rng32 (A <<< ((18 : Int32) &&& 31))
  have r0 := rng32 (B <<< ((12 : Int32) &&& 31))
  have r9 := rng32 (D <<< ((6 : Int32) &&& 31))
  have o := c_or (A <<< ((18 : Int32) &&& 31)) (B <<< ((12 : Int32) &&& 31)) 18 (by decide) 262144 (by decide) (by omega) (by omega) (by omega)
  have r2 := rng32 ((A <<< ((18 : Int32) &&& 31)) ||| (B <<< ((12 : Int32) &&& 31)))
  have o2 := c_or ((A <<< ((18 : Int32) &&& 31)) ||| (B <<< ((12 : Int32) &&& 31))) (D <<< ((6 : Int32) &&& 31)) 12 (by decide) 4096 (by decide) (by omega) (by omega) (by omega)
  have r3 := rng32 (((A <<< ((18 : Int32) &&& 31)) ||| (B <<< ((12 : Int32) &&& 31))) ||| (D <<< ((6 : Int32) &&& 31)))
  have o3 := c_or (((A <<< ((18 : Int32) &&& 31)) ||| (B <<< ((12 : Int32) &&& 31))) ||| (D <<< ((6 : Int32) &&& 31))) E 6 (by decide) 64 (by decide) (by omega) f1 (by omega)
  have r4 := rng32 ((((A <<< ((18 : Int32) &&& 31)) ||| (B <<< ((12 : Int32) &&& 31))) ||| (D <<< ((6 : Int32) &&& 31))) ||| E)
  omega
/-- the end of decode, by numbers -/
theorem own_lstV {c l : Int32} (h1 : l.toInt ≤ c.toInt) (h2 : c.toInt < 55296 ∨ 57343 < c.toInt) (h3 : c.toInt ≤ 1114111) : own_lst c l = c := by
  unfold own_lst; simp only [Int32.lt_iff_toInt_lt, Int32.reduceToInt]
  repeat' split
  all_goals first | rfl | (exfalso; omega)
theorem own_lstN {c l : Int32} (h : c.toInt < l.toInt ∨ (55296 ≤ c.toInt ∧ c.toInt ≤ 57343) ∨ 1114111 < c.toInt) : own_lst c l = (-1 : Int32) := by
  unfold own_lst; simp only [Int32.lt_iff_toInt_lt, Int32.reduceToInt]
  repeat' split
  all_goals first | rfl | (exfalso; omega)
theorem own_law2 {f c : Int32} (f1 : 194 ≤ f.toInt) (f2 : f.toInt ≤ 223) (c1 : 0 ≤ c.toInt) (c2 : c.toInt ≤ 255) : own_dec2 f.toInt8.toInt32 c.toInt8.toInt32 = if own_in c (128 : Int32) (191 : Int32) = (0 : Int32) then (-1 : Int32) else (((f &&& (31 : Int32)) <<< ((6 : Int32) &&& 31)) ||| (c &&& (63 : Int32))) := by
  obtain ⟨q1, q2⟩ := own_cc c1 c2
  have iv := own_inV c (128 : Int32) (191 : Int32)
  simp only [Int32.reduceToInt] at iv
  unfold own_dec2 own_c2
  rw [q2, own_low f 31 5 (by decide) (by decide)]
  have m1 := c_mask f 31 5 (by decide) (by decide)
  have m2 := c_mask c 63 6 (by decide) (by decide)
  have v := own_V2 (A := f &&& (31 : Int32)) (B := c &&& (63 : Int32)) (by omega) (by omega) (by omega) (by omega)
  by_cases k : 128 ≤ c.toInt ∧ c.toInt ≤ 191
  · rw [if_pos (q1.mpr k), if_neg (fun z => iv.mp z k)]
    exact own_lstV (by simp only [Int32.reduceToInt]; omega) (by omega) (by omega)
  · rw [if_neg (fun z => k (q1.mp z)), if_pos (iv.mpr k)]
def own_ok3 (f c d : Int32) : Int32 := if own_in c (if f = (224 : Int32) then (160 : Int32) else (128 : Int32)) (if f = (237 : Int32) then (159 : Int32) else (191 : Int32)) = (0 : Int32) then (0 : Int32) else if own_in d (128 : Int32) (191 : Int32) = (0 : Int32) then (0 : Int32) else (1 : Int32)
def own_ok4 (f c d e : Int32) : Int32 := if own_in c (if f = (240 : Int32) then (144 : Int32) else (128 : Int32)) (if f = (244 : Int32) then (143 : Int32) else (191 : Int32)) = (0 : Int32) then (0 : Int32) else if own_in d (128 : Int32) (191 : Int32) = (0 : Int32) then (0 : Int32) else if own_in e (128 : Int32) (191 : Int32) = (0 : Int32) then (0 : Int32) else (1 : Int32)
theorem own_law3 {f c d : Int32} (f1 : 224 ≤ f.toInt) (f2 : f.toInt ≤ 239) (c1 : 0 ≤ c.toInt) (c2 : c.toInt ≤ 255) (d1 : 0 ≤ d.toInt) (d2 : d.toInt ≤ 255) : own_dec3 f.toInt8.toInt32 c.toInt8.toInt32 d.toInt8.toInt32 = if own_ok3 f c d = (0 : Int32) then (-1 : Int32) else ((((f &&& (15 : Int32)) <<< ((12 : Int32) &&& 31)) ||| ((c &&& (63 : Int32)) <<< ((6 : Int32) &&& 31))) ||| (d &&& (63 : Int32))) := by
  obtain ⟨q1, q2⟩ := own_cc c1 c2
  obtain ⟨r1, r2⟩ := own_cc d1 d2
  unfold own_dec3 own_c3 own_ok3
  rw [q2, r2, own_low f 15 4 (by decide) (by decide)]
  have m1 := c_mask f 15 4 (by decide) (by decide)
  have m2 := c_mask c 63 6 (by decide) (by decide)
  have m3 := c_mask d 63 6 (by decide) (by decide)
  have v1 := own_V2 (A := f &&& (15 : Int32)) (B := c &&& (63 : Int32)) (by omega) (by omega) (by omega) (by omega)
  have v := own_V6 (A := ((f &&& (15 : Int32)) <<< ((6 : Int32) &&& 31)) ||| (c &&& (63 : Int32))) (B := d &&& (63 : Int32)) (by omega) (by omega) (by omega) (by omega)
  have w := own_W3 (A := f &&& (15 : Int32)) (B := c &&& (63 : Int32)) (D := d &&& (63 : Int32)) (by omega) (by omega) (by omega) (by omega) (by omega) (by omega)
  have iv := own_inV c (if f = (224 : Int32) then (160 : Int32) else (128 : Int32)) (if f = (237 : Int32) then (159 : Int32) else (191 : Int32))
  have jv := own_inV d (128 : Int32) (191 : Int32)
  have lo : (if f = (224 : Int32) then (160 : Int32) else (128 : Int32)).toInt = if f.toInt = 224 then 160 else 128 := by
    by_cases q : f = (224 : Int32)
    · rw [if_pos q, if_pos (show f.toInt = 224 by rw [q]; rfl)]; rfl
    · rw [if_neg q, if_neg (show ¬ f.toInt = 224 from fun z => q (Int32.toInt_inj.mp z))]; rfl
  have hi : (if f = (237 : Int32) then (159 : Int32) else (191 : Int32)).toInt = if f.toInt = 237 then 159 else 191 := by
    by_cases q : f = (237 : Int32)
    · rw [if_pos q, if_pos (show f.toInt = 237 by rw [q]; rfl)]; rfl
    · rw [if_neg q, if_neg (show ¬ f.toInt = 237 from fun z => q (Int32.toInt_inj.mp z))]; rfl
  rw [lo, hi] at iv
  simp only [Int32.reduceToInt] at jv
  generalize own_in c _ _ = I at *
  generalize own_in d _ _ = J at *
  by_cases k : 128 ≤ c.toInt ∧ c.toInt ≤ 191
  · rw [if_pos (q1.mpr k)]
    by_cases k2 : 128 ≤ d.toInt ∧ d.toInt ≤ 191
    · rw [if_pos (r1.mpr k2), if_neg (show ¬ J = 0 from fun z => jv.mp z k2)]
      by_cases k3 : I = 0
      · rw [if_pos k3, if_pos rfl]
        apply own_lstN
        have := iv.mp k3
        simp only [Int32.reduceToInt]
        split at this <;> split at this <;> omega
      · rw [if_neg k3, if_neg (by decide)]
        have ee : ((((f &&& (15 : Int32)) <<< ((6 : Int32) &&& 31)) ||| (c &&& (63 : Int32))) <<< ((6 : Int32) &&& 31)) ||| (d &&& (63 : Int32)) = (((f &&& (15 : Int32)) <<< ((12 : Int32) &&& 31)) ||| ((c &&& (63 : Int32)) <<< ((6 : Int32) &&& 31))) ||| (d &&& (63 : Int32)) := Int32.toInt_inj.mp (by rw [v, w, v1]; omega)
        rw [ee]
        have k4 : ¬ ¬ _ := fun z => k3 (iv.mpr z)
        have k4 := Classical.not_not.mp k4
        apply own_lstV
        · simp only [Int32.reduceToInt]; split at k4 <;> split at k4 <;> omega
        · split at k4 <;> split at k4 <;> omega
        · omega
    · rw [if_neg (fun z => k2 (r1.mp z)), if_pos (show J = 0 from jv.mpr k2)]
      split <;> rfl
  · rw [if_neg (fun z => k (q1.mp z)), if_pos (show I = 0 from iv.mpr (fun z => k (by split at z <;> split at z <;> omega)))]
    rfl
theorem own_law4 {f c d e : Int32} (f1 : 240 ≤ f.toInt) (f2 : f.toInt ≤ 244) (c1 : 0 ≤ c.toInt) (c2 : c.toInt ≤ 255) (d1 : 0 ≤ d.toInt) (d2 : d.toInt ≤ 255) (e1 : 0 ≤ e.toInt) (e2 : e.toInt ≤ 255) : own_dec4 f.toInt8.toInt32 c.toInt8.toInt32 d.toInt8.toInt32 e.toInt8.toInt32 = if own_ok4 f c d e = (0 : Int32) then (-1 : Int32) else (((((f &&& (7 : Int32)) <<< ((18 : Int32) &&& 31)) ||| ((c &&& (63 : Int32)) <<< ((12 : Int32) &&& 31))) ||| ((d &&& (63 : Int32)) <<< ((6 : Int32) &&& 31))) ||| (e &&& (63 : Int32))) := by
  obtain ⟨q1, q2⟩ := own_cc c1 c2
  obtain ⟨r1, r2⟩ := own_cc d1 d2
  obtain ⟨s1, s2⟩ := own_cc e1 e2
  unfold own_dec4 own_c4 own_ok4
  rw [q2, r2, s2, own_low f 7 3 (by decide) (by decide)]
  have m1 := c_mask f 7 3 (by decide) (by decide)
  have m2 := c_mask c 63 6 (by decide) (by decide)
  have m3 := c_mask d 63 6 (by decide) (by decide)
  have m4 := c_mask e 63 6 (by decide) (by decide)
  have v1 := own_V2 (A := f &&& (7 : Int32)) (B := c &&& (63 : Int32)) (by omega) (by omega) (by omega) (by omega)
  have v2 := own_V6 (A := ((f &&& (7 : Int32)) <<< ((6 : Int32) &&& 31)) ||| (c &&& (63 : Int32))) (B := d &&& (63 : Int32)) (by omega) (by omega) (by omega) (by omega)
  have v := own_V6 (A := (((f &&& (7 : Int32)) <<< ((6 : Int32) &&& 31)) ||| (c &&& (63 : Int32))) <<< ((6 : Int32) &&& 31) ||| (d &&& (63 : Int32))) (B := e &&& (63 : Int32)) (by omega) (by omega) (by omega) (by omega)
  have w := own_W4 (A := f &&& (7 : Int32)) (B := c &&& (63 : Int32)) (D := d &&& (63 : Int32)) (E := e &&& (63 : Int32)) (by omega) (by omega) (by omega) (by omega) (by omega) (by omega) (by omega) (by omega)
  have iv := own_inV c (if f = (240 : Int32) then (144 : Int32) else (128 : Int32)) (if f = (244 : Int32) then (143 : Int32) else (191 : Int32))
  have jv := own_inV d (128 : Int32) (191 : Int32)
  have kv := own_inV e (128 : Int32) (191 : Int32)
  have lo : (if f = (240 : Int32) then (144 : Int32) else (128 : Int32)).toInt = if f.toInt = 240 then 144 else 128 := by
    by_cases q : f = (240 : Int32)
    · rw [if_pos q, if_pos (show f.toInt = 240 by rw [q]; rfl)]; rfl
    · rw [if_neg q, if_neg (show ¬ f.toInt = 240 from fun z => q (Int32.toInt_inj.mp z))]; rfl
  have hi : (if f = (244 : Int32) then (143 : Int32) else (191 : Int32)).toInt = if f.toInt = 244 then 143 else 191 := by
    by_cases q : f = (244 : Int32)
    · rw [if_pos q, if_pos (show f.toInt = 244 by rw [q]; rfl)]; rfl
    · rw [if_neg q, if_neg (show ¬ f.toInt = 244 from fun z => q (Int32.toInt_inj.mp z))]; rfl
  rw [lo, hi] at iv
  simp only [Int32.reduceToInt] at jv kv
  generalize own_in c _ _ = I at *
  generalize own_in d _ _ = J at *
  generalize own_in e _ _ = K at *
  by_cases k : 128 ≤ c.toInt ∧ c.toInt ≤ 191
  · rw [if_pos (q1.mpr k)]
    by_cases k2 : 128 ≤ d.toInt ∧ d.toInt ≤ 191
    · rw [if_pos (r1.mpr k2), if_neg (show ¬ J = 0 from fun z => jv.mp z k2)]
      by_cases k5 : 128 ≤ e.toInt ∧ e.toInt ≤ 191
      · rw [if_pos (s1.mpr k5), if_neg (show ¬ K = 0 from fun z => kv.mp z k5)]
        by_cases k3 : I = 0
        · rw [if_pos k3, if_pos rfl]
          apply own_lstN
          have := iv.mp k3
          simp only [Int32.reduceToInt]
          split at this <;> split at this <;> omega
        · rw [if_neg k3, if_neg (by decide)]
          have ee : ((((((f &&& (7 : Int32)) <<< ((6 : Int32) &&& 31)) ||| (c &&& (63 : Int32))) <<< ((6 : Int32) &&& 31)) ||| (d &&& (63 : Int32))) <<< ((6 : Int32) &&& 31)) ||| (e &&& (63 : Int32)) = ((((f &&& (7 : Int32)) <<< ((18 : Int32) &&& 31)) ||| ((c &&& (63 : Int32)) <<< ((12 : Int32) &&& 31))) ||| ((d &&& (63 : Int32)) <<< ((6 : Int32) &&& 31))) ||| (e &&& (63 : Int32)) := Int32.toInt_inj.mp (by rw [v, w, v2, v1]; omega)
          rw [ee]
          have k4 : ¬ ¬ _ := fun z => k3 (iv.mpr z)
          have k4 := Classical.not_not.mp k4
          apply own_lstV
          · simp only [Int32.reduceToInt]; split at k4 <;> split at k4 <;> omega
          · split at k4 <;> split at k4 <;> omega
          · split at k4 <;> split at k4 <;> omega
      · rw [if_neg (fun z => k5 (s1.mp z)), if_pos (show K = 0 from kv.mpr k5)]
        split <;> rfl
    · rw [if_neg (fun z => k2 (r1.mp z)), if_pos (show J = 0 from jv.mpr k2)]
      split <;> rfl
  · rw [if_neg (fun z => k (q1.mp z)), if_pos (show I = 0 from iv.mpr (fun z => k (by split at z <;> split at z <;> omega)))]
    rfl
theorem d1_0 : decode method_2_code 0 = .ok (.iload_n 0, 1) := by decide +kernel
theorem d1_1 : decode method_2_code 1 = .ok (.iload_n 1, 1) := by decide +kernel
theorem d1_2 : decode method_2_code 2 = .ok (.if_icmp .lt 12, 3) := by decide +kernel
theorem d1_5 : decode method_2_code 5 = .ok (.iload_n 0, 1) := by decide +kernel
theorem d1_6 : decode method_2_code 6 = .ok (.iload_n 2, 1) := by decide +kernel
theorem d1_7 : decode method_2_code 7 = .ok (.if_icmp .gt 7, 3) := by decide +kernel
theorem d1_10 : decode method_2_code 10 = .ok (.iconst 1, 1) := by decide +kernel
theorem d1_11 : decode method_2_code 11 = .ok (.goto 4, 3) := by decide +kernel
theorem d1_14 : decode method_2_code 14 = .ok (.iconst 0, 1) := by decide +kernel
theorem d1_15 : decode method_2_code 15 = .ok (.ireturn, 1) := by decide +kernel
theorem pn_c0 : plainName "com/example/templum/templum/validation/Utf8DecodePinLaw" = true := by first | (simp [plainName, overriddenIn]; done) | decide +kernel
theorem ef_1_III (m : MethodId) (x0 : Int32) (x1 : Int32) (x2 : Int32) : entryFrame m #[(.int x0), (.int x1), (.int x2)] 3 = mkF m 0 #[.val (.int x0), .val (.int x1), .val (.int x2)] [] := by first | (simp [entryFrame, mkF, argsToLocals, Value.category]; done) | rfl
set_option maxRecDepth 65536 in
set_option maxHeartbeats 40000000 in
theorem rm_in (l : Launch) (Z : State) (a0 : Array Value) (hw : ∀ d ∈ tables_1, d.before a0 Z = true) (p1 : Int32) (p2 : Int32) (p3 : Int32) (h0 : Heap) (n0 : Nat)  :
    own_Met l Z (⟨"com/example/templum/templum/validation/Utf8DecodePinLaw", "in", "(III)Z"⟩ : MethodName) method_2_code 3 (some .boolean) ({ frames := 0, cells := 0, slots := 0, locals := 0 } : Room) #[(.int p1), (.int p2), (.int p3)] h0 (fun v h L => v = some (.int (own_in p1 p2 p3)) ∧ Fr n0 L ∧ h = h0) := by
  intro ws
  refine MetFree.of_bodySF (plainFor_of_name pn_c0) hisR ?_
  intro p e s m args below meth c s₁ Bd hml0 hP hK
  obtain ⟨rfl, hZ, hh⟩ := hP
  have hx := Bd.exec
  have hby := Bd.bytes
  have hml : c.maxLocals = 3 := hml0
  have hown : s.vm.findClass "com/example/templum/templum/validation/Utf8DecodePinLaw" = some m.cls := findClass_of_methodNamed Bd.named
  have hnm := (name_of_methodNamed Bd.named Bd.method).1
  have hlk : meth.locks = false := Bd.notSynchronized
  have X0 : Stand p l e ({ frames := 0, cells := 0, slots := 0, locals := 0 } : Room) s m #[(.int p1), (.int p2), (.int p3)] below meth c s₁ [] 0 0 := Stand.of_body Bd
  have e0 : s₁.heap = h0 := by rw [← hh, Bd.state]; rfl
  have N0 := Fr.nil n0
  refine own_body (Q := fun v h L => v = some (.int (own_in p1 p2 p3)) ∧ Fr n0 L ∧ h = h0) ?_
  generalize hΦ : own_Fin s below _ _ _ = Φ
  refine own_cast (ef_1_III m p1 p2 p3) ?_
  show own_Run p e below Φ (s₁.setTop (mkF m 0 #[.val (.int p1), .val (.int p2), .val (.int p3)] []))
  refine own_go (fun t k => XS.iloadN X0.here hx rfl (hb hby d1_0) rfl  k) ?_
  refine own_go (fun t k => XS.iloadN X0.here hx rfl (hb hby d1_1) rfl  k) ?_
  by_cases hc2 : p1 < p2
  · refine own_go (fun t k => XS.icmpYes X0.here hx rfl (pc0 := 2) (pc' := 14) rfl (hb hby d1_2) rfl (tlt hc2).1 (by decide) (by decide) k) ?_
    refine own_go (fun t k => XS.iconst X0.here hx rfl (hb hby d1_14) k) ?_
    subst hΦ
    exact own_retN X0 hx (t := .boolean) Bd.returns (by simp) hlk (hb hby d1_15) e0 ⟨(by unfold own_in; rw [if_pos hc2]; rfl), N0, rfl⟩ (by decide) (by decide)
  · refine own_go (fun t k => XS.icmpNo X0.here hx rfl (hb hby d1_2) rfl (flt hc2).1 k) ?_
    show own_Run p e below Φ (s₁.setTop (mkF m 5 #[.val (.int p1), .val (.int p2), .val (.int p3)] []))
    refine own_go (fun t k => XS.iloadN X0.here hx rfl (hb hby d1_5) rfl  k) ?_
    refine own_go (fun t k => XS.iloadN X0.here hx rfl (hb hby d1_6) rfl  k) ?_
    by_cases hc7 : p3 < p1
    · refine own_go (fun t k => XS.icmpYes X0.here hx rfl (pc0 := 7) (pc' := 14) rfl (hb hby d1_7) rfl (tlt hc7).2.2.1 (by decide) (by decide) k) ?_
      refine own_go (fun t k => XS.iconst X0.here hx rfl (hb hby d1_14) k) ?_
      subst hΦ
      exact own_retN X0 hx (t := .boolean) Bd.returns (by simp) hlk (hb hby d1_15) e0 ⟨(by unfold own_in; rw [if_neg hc2, if_pos hc7]; rfl), N0, rfl⟩ (by decide) (by decide)
    · refine own_go (fun t k => XS.icmpNo X0.here hx rfl (hb hby d1_7) rfl (flt hc7).2.2.1 k) ?_
      show own_Run p e below Φ (s₁.setTop (mkF m 10 #[.val (.int p1), .val (.int p2), .val (.int p3)] []))
      refine own_go (fun t k => XS.iconst X0.here hx rfl (hb hby d1_10) k) ?_
      refine own_go (fun t k => XS.goto X0.here hx rfl (pc0 := 11) (pc' := 15) rfl (hb hby d1_11) (by decide) (by decide) k) ?_
      subst hΦ
      exact own_retN X0 hx (t := .boolean) Bd.returns (by simp) hlk (hb hby d1_15) e0 ⟨(by unfold own_in; rw [if_neg hc2, if_neg hc7]; rfl), N0, rfl⟩ (by decide) (by decide)
theorem d2_0 : decode prog_118_method_3_code 0 = .ok (.aload_n 0, 1) := by decide +kernel
theorem d2_1 : decode prog_118_method_3_code 1 = .ok (.iload_n 1, 1) := by decide +kernel
theorem d2_2 : decode prog_118_method_3_code 2 = .ok (.baload, 1) := by decide +kernel
theorem d2_3 : decode prog_118_method_3_code 3 = .ok (.bipush 127, 2) := by decide +kernel
theorem d2_5 : decode prog_118_method_3_code 5 = .ok (.iload_n 2, 1) := by decide +kernel
theorem d2_6 : decode prog_118_method_3_code 6 = .ok (.ishr, 1) := by decide +kernel
theorem d2_7 : decode prog_118_method_3_code 7 = .ok (.iand, 1) := by decide +kernel
theorem d2_8 : decode prog_118_method_3_code 8 = .ok (.istore_n 3, 1) := by decide +kernel
theorem d2_9 : decode prog_118_method_3_code 9 = .ok (.iconst 1, 1) := by decide +kernel
theorem d2_10 : decode prog_118_method_3_code 10 = .ok (.istore 4, 2) := by decide +kernel
theorem d2_12 : decode prog_118_method_3_code 12 = .ok (.iload 4, 2) := by decide +kernel
theorem d2_14 : decode prog_118_method_3_code 14 = .ok (.iload_n 2, 1) := by decide +kernel
theorem d2_15 : decode prog_118_method_3_code 15 = .ok (.if_icmp .ge 42, 3) := by decide +kernel
theorem d2_18 : decode prog_118_method_3_code 18 = .ok (.aload_n 0, 1) := by decide +kernel
theorem d2_19 : decode prog_118_method_3_code 19 = .ok (.iload_n 1, 1) := by decide +kernel
theorem d2_20 : decode prog_118_method_3_code 20 = .ok (.iload 4, 2) := by decide +kernel
theorem d2_22 : decode prog_118_method_3_code 22 = .ok (.iadd, 1) := by decide +kernel
theorem d2_23 : decode prog_118_method_3_code 23 = .ok (.baload, 1) := by decide +kernel
theorem d2_24 : decode prog_118_method_3_code 24 = .ok (.istore 5, 2) := by decide +kernel
theorem d2_26 : decode prog_118_method_3_code 26 = .ok (.iload 5, 2) := by decide +kernel
theorem d2_28 : decode prog_118_method_3_code 28 = .ok (.sipush 192, 3) := by decide +kernel
theorem d2_31 : decode prog_118_method_3_code 31 = .ok (.iand, 1) := by decide +kernel
theorem d2_32 : decode prog_118_method_3_code 32 = .ok (.sipush 128, 3) := by decide +kernel
theorem d2_35 : decode prog_118_method_3_code 35 = .ok (.if_icmp .eq 5, 3) := by decide +kernel
theorem d2_38 : decode prog_118_method_3_code 38 = .ok (.iconst (-1), 1) := by decide +kernel
theorem d2_39 : decode prog_118_method_3_code 39 = .ok (.ireturn, 1) := by decide +kernel
theorem d2_40 : decode prog_118_method_3_code 40 = .ok (.iload_n 3, 1) := by decide +kernel
theorem d2_41 : decode prog_118_method_3_code 41 = .ok (.bipush 6, 2) := by decide +kernel
theorem d2_43 : decode prog_118_method_3_code 43 = .ok (.ishl, 1) := by decide +kernel
theorem d2_44 : decode prog_118_method_3_code 44 = .ok (.iload 5, 2) := by decide +kernel
theorem d2_46 : decode prog_118_method_3_code 46 = .ok (.bipush 63, 2) := by decide +kernel
theorem d2_48 : decode prog_118_method_3_code 48 = .ok (.iand, 1) := by decide +kernel
theorem d2_49 : decode prog_118_method_3_code 49 = .ok (.ior, 1) := by decide +kernel
theorem d2_50 : decode prog_118_method_3_code 50 = .ok (.istore_n 3, 1) := by decide +kernel
theorem d2_51 : decode prog_118_method_3_code 51 = .ok (.iinc 4 1, 3) := by decide +kernel
theorem d2_54 : decode prog_118_method_3_code 54 = .ok (.goto (-42), 3) := by decide +kernel
theorem d2_57 : decode prog_118_method_3_code 57 = .ok (.iload_n 3, 1) := by decide +kernel
theorem d2_58 : decode prog_118_method_3_code 58 = .ok (.getstatic 7, 3) := by decide +kernel
theorem d2_61 : decode prog_118_method_3_code 61 = .ok (.iload_n 2, 1) := by decide +kernel
theorem d2_62 : decode prog_118_method_3_code 62 = .ok (.iaload, 1) := by decide +kernel
theorem d2_63 : decode prog_118_method_3_code 63 = .ok (.if_icmp .lt 21, 3) := by decide +kernel
theorem d2_66 : decode prog_118_method_3_code 66 = .ok (.iload_n 3, 1) := by decide +kernel
theorem d2_67 : decode prog_118_method_3_code 67 = .ok (.ldc 15, 2) := by decide +kernel
theorem d2_69 : decode prog_118_method_3_code 69 = .ok (.if_icmp .lt 9, 3) := by decide +kernel
theorem d2_72 : decode prog_118_method_3_code 72 = .ok (.iload_n 3, 1) := by decide +kernel
theorem d2_73 : decode prog_118_method_3_code 73 = .ok (.ldc 16, 2) := by decide +kernel
theorem d2_75 : decode prog_118_method_3_code 75 = .ok (.if_icmp .le 9, 3) := by decide +kernel
theorem d2_78 : decode prog_118_method_3_code 78 = .ok (.iload_n 3, 1) := by decide +kernel
theorem d2_79 : decode prog_118_method_3_code 79 = .ok (.ldc 17, 2) := by decide +kernel
theorem d2_81 : decode prog_118_method_3_code 81 = .ok (.if_icmp .le 5, 3) := by decide +kernel
theorem d2_84 : decode prog_118_method_3_code 84 = .ok (.iconst (-1), 1) := by decide +kernel
theorem d2_85 : decode prog_118_method_3_code 85 = .ok (.ireturn, 1) := by decide +kernel
theorem d2_86 : decode prog_118_method_3_code 86 = .ok (.iload_n 3, 1) := by decide +kernel
theorem d2_87 : decode prog_118_method_3_code 87 = .ok (.ireturn, 1) := by decide +kernel
theorem pn_c1 : plainName "com/example/templum/templum/validation/Utf8" = true := by first | (simp [plainName, overriddenIn]; done) | decide +kernel
theorem ef_2_RII (m : MethodId) (x0 : Addr) (x1 : Int32) (x2 : Int32) : entryFrame m #[(.ref x0), (.int x1), (.int x2)] 6 = mkF m 0 #[.val (.ref x0), .val (.int x1), .val (.int x2), .unset, .unset, .unset] [] := by first | (simp [entryFrame, mkF, argsToLocals, Value.category]; done) | rfl
set_option maxRecDepth 65536 in
set_option maxHeartbeats 40000000 in
theorem rm_dec2 (l : Launch) (Z : State) (a0 : Array Value) (hw : ∀ d ∈ tables_1, d.before a0 Z = true) (a1 : Addr) (p2 : Int32) (k1 : ClassId) (us : List Value) (d1 : Int32) (x0 : Int32) (x1 : Int32) (w1 : Addr) (kw : ClassId) (h0 : Heap) (n0 : Nat) (H1 : Arv Z h0 a1 k1 .byte (8 : Int32) us (.int d1)) (H2 : Old Z n0 h0) (H3 : Sta Z Z.heap "com/example/templum/templum/validation/Utf8" "LEAST_OF_LENGTH" "[I" (.ref w1)) (H4 : Arv Z h0 w1 kw .int (5 : Int32) [(.int (0 : Int32)), (.int (0 : Int32)), (.int (128 : Int32)), (.int (2048 : Int32)), (.int (65536 : Int32))] (.int (0 : Int32))) (hb0 : ¬ p2 < 0 ∧ p2 < (8 : Int32)) (hv0 : us.getD p2.toNatClampNeg (.int d1) = .int x0) (hb1 : ¬ (p2 + (1 : Int32)) < 0 ∧ (p2 + (1 : Int32)) < (8 : Int32)) (hv1 : us.getD (p2 + (1 : Int32)).toNatClampNeg (.int d1) = .int x1) :
    own_Met l Z (⟨"com/example/templum/templum/validation/Utf8", "decode", "([BII)I"⟩ : MethodName) prog_118_method_3_code 6 (some .int) ({ frames := 0, cells := 0, slots := 0, locals := 0 } : Room) #[(.ref a1), (.int p2), (.int (2 : Int32))] h0 (fun v h L => v = some (.int (own_dec2 x0 x1)) ∧ Fr n0 L ∧ h = h0) := by
  intro ws
  refine MetFree.of_bodySF (plainFor_of_name pn_c1) hisR ?_
  intro p e s m args below meth c s₁ Bd hml0 hP hK
  obtain ⟨rfl, hZ, hh⟩ := hP
  have hx := Bd.exec
  have hby := Bd.bytes
  have hml : c.maxLocals = 6 := hml0
  have hown : s.vm.findClass "com/example/templum/templum/validation/Utf8" = some m.cls := findClass_of_methodNamed Bd.named
  have hnm := (name_of_methodNamed Bd.named Bd.method).1
  have hlk : meth.locks = false := Bd.notSynchronized
  have X0 : Stand p l e ({ frames := 0, cells := 0, slots := 0, locals := 0 } : Room) s m #[(.ref a1), (.int p2), (.int (2 : Int32))] below meth c s₁ [] 0 0 := Stand.of_body Bd
  have e0 : s₁.heap = h0 := by rw [← hh, Bd.state]; rfl
  have N0 := Fr.nil n0
  refine own_body (Q := fun v h L => v = some (.int (own_dec2 x0 x1)) ∧ Fr n0 L ∧ h = h0) ?_
  generalize hΦ : own_Fin s below _ _ _ = Φ
  refine own_cast (ef_2_RII m a1 p2 (2 : Int32)) ?_
  show own_Run p e below Φ (s₁.setTop (mkF m 0 #[.val (.ref a1), .val (.int p2), .val (.int (2 : Int32)), .unset, .unset, .unset] []))
  refine own_go (fun t k => XS.aloadN X0.here hx rfl (hb hby d2_0) rfl rfl  k) ?_
  refine own_go (fun t k => XS.iloadN X0.here hx rfl (hb hby d2_1) rfl  k) ?_
  refine own_baload X0 hx hZ e0 H1 (j := p2) (v := (.int x0)) hb0 hv0 (g := (mkF m 2 #[.val (.ref a1), .val (.int p2), .val (.int (2 : Int32)), .unset, .unset, .unset] [(.int p2), (.ref a1)])) rfl rfl (hb hby d2_2) ?_
  refine own_go (fun t k => XS.bipush X0.here hx rfl (hb hby d2_3) k) ?_
  refine own_go (fun t k => XS.iloadN X0.here hx rfl (hb hby d2_5) rfl  k) ?_
  show own_Run p e below Φ (s₁.setTop (mkF m 6 #[.val (.ref a1), .val (.int p2), .val (.int (2 : Int32)), .unset, .unset, .unset] [(.int (2 : Int32)), (.int (127 : Int32)), (.int x0)]))
  refine own_go (fun t k => XS.ishr X0.here hx rfl (hb hby d2_6) rfl k) ?_
  show own_Run p e below Φ (s₁.setTop (mkF m 7 #[.val (.ref a1), .val (.int p2), .val (.int (2 : Int32)), .unset, .unset, .unset] [(.int ((127 : Int32) >>> ((2 : Int32) &&& 31))), (.int x0)]))
  rw [show ((127 : Int32) >>> ((2 : Int32) &&& 31)) = (31 : Int32) from by decide]
  show own_Run p e below Φ (s₁.setTop (mkF m 7 #[.val (.ref a1), .val (.int p2), .val (.int (2 : Int32)), .unset, .unset, .unset] [(.int (31 : Int32)), (.int x0)]))
  refine own_go (fun t k => XS.iand X0.here hx rfl (hb hby d2_7) rfl k) ?_
  refine own_go (fun t k => XS.istoreN X0.here hx rfl (hb hby d2_8) rfl (l' := #[.val (.ref a1), .val (.int p2), .val (.int (2 : Int32)), .val (.int (x0 &&& (31 : Int32))), .unset, .unset]) rfl k) ?_
  refine own_go (fun t k => XS.iconst X0.here hx rfl (hb hby d2_9) k) ?_
  refine own_go (fun t k => XS.istore X0.here hx rfl (hb hby d2_10) rfl (l' := #[.val (.ref a1), .val (.int p2), .val (.int (2 : Int32)), .val (.int (x0 &&& (31 : Int32))), .val (.int (1 : Int32)), .unset]) rfl k) ?_
  refine own_go (fun t k => XS.iload X0.here hx rfl (hb hby d2_12) rfl  k) ?_
  show own_Run p e below Φ (s₁.setTop (mkF m 14 #[.val (.ref a1), .val (.int p2), .val (.int (2 : Int32)), .val (.int (x0 &&& (31 : Int32))), .val (.int (1 : Int32)), .unset] [(.int (1 : Int32))]))
  refine own_go (fun t k => XS.iloadN X0.here hx rfl (hb hby d2_14) rfl  k) ?_
  refine own_go (fun t k => XS.icmpNo X0.here hx rfl (hb hby d2_15) rfl (tlt (by decide : (1 : Int32) < (2 : Int32))).2.1 k) ?_
  refine own_go (fun t k => XS.aloadN X0.here hx rfl (hb hby d2_18) rfl rfl  k) ?_
  refine own_go (fun t k => XS.iloadN X0.here hx rfl (hb hby d2_19) rfl  k) ?_
  refine own_go (fun t k => XS.iload X0.here hx rfl (hb hby d2_20) rfl  k) ?_
  show own_Run p e below Φ (s₁.setTop (mkF m 22 #[.val (.ref a1), .val (.int p2), .val (.int (2 : Int32)), .val (.int (x0 &&& (31 : Int32))), .val (.int (1 : Int32)), .unset] [(.int (1 : Int32)), (.int p2), (.ref a1)]))
  refine own_go (fun t k => XS.iadd X0.here hx rfl (hb hby d2_22) rfl k) ?_
  refine own_baload X0 hx hZ e0 H1 (j := (p2 + (1 : Int32))) (v := (.int x1)) hb1 hv1 (g := (mkF m 23 #[.val (.ref a1), .val (.int p2), .val (.int (2 : Int32)), .val (.int (x0 &&& (31 : Int32))), .val (.int (1 : Int32)), .unset] [(.int (p2 + (1 : Int32))), (.ref a1)])) rfl rfl (hb hby d2_23) ?_
  refine own_go (fun t k => XS.istore X0.here hx rfl (hb hby d2_24) rfl (l' := #[.val (.ref a1), .val (.int p2), .val (.int (2 : Int32)), .val (.int (x0 &&& (31 : Int32))), .val (.int (1 : Int32)), .val (.int x1)]) rfl k) ?_
  refine own_go (fun t k => XS.iload X0.here hx rfl (hb hby d2_26) rfl  k) ?_
  refine own_go (fun t k => XS.sipush X0.here hx rfl (hb hby d2_28) k) ?_
  show own_Run p e below Φ (s₁.setTop (mkF m 31 #[.val (.ref a1), .val (.int p2), .val (.int (2 : Int32)), .val (.int (x0 &&& (31 : Int32))), .val (.int (1 : Int32)), .val (.int x1)] [(.int (192 : Int32)), (.int x1)]))
  refine own_go (fun t k => XS.iand X0.here hx rfl (hb hby d2_31) rfl k) ?_
  refine own_go (fun t k => XS.sipush X0.here hx rfl (hb hby d2_32) k) ?_
  by_cases hc35 : (x1 &&& (192 : Int32)) = (128 : Int32)
  · refine own_go (fun t k => XS.icmpYes X0.here hx rfl (pc0 := 35) (pc' := 40) rfl (hb hby d2_35) rfl (teq hc35).1 (by decide) (by decide) k) ?_
    refine own_go (fun t k => XS.iloadN X0.here hx rfl (hb hby d2_40) rfl  k) ?_
    refine own_go (fun t k => XS.bipush X0.here hx rfl (hb hby d2_41) k) ?_
    show own_Run p e below Φ (s₁.setTop (mkF m 43 #[.val (.ref a1), .val (.int p2), .val (.int (2 : Int32)), .val (.int (x0 &&& (31 : Int32))), .val (.int (1 : Int32)), .val (.int x1)] [(.int (6 : Int32)), (.int (x0 &&& (31 : Int32)))]))
    refine own_go (fun t k => XS.ishl X0.here hx rfl (hb hby d2_43) rfl k) ?_
    refine own_go (fun t k => XS.iload X0.here hx rfl (hb hby d2_44) rfl  k) ?_
    refine own_go (fun t k => XS.bipush X0.here hx rfl (hb hby d2_46) k) ?_
    refine own_go (fun t k => XS.iand X0.here hx rfl (hb hby d2_48) rfl k) ?_
    refine own_go (fun t k => XS.ior X0.here hx rfl (hb hby d2_49) rfl k) ?_
    show own_Run p e below Φ (s₁.setTop (mkF m 50 #[.val (.ref a1), .val (.int p2), .val (.int (2 : Int32)), .val (.int (x0 &&& (31 : Int32))), .val (.int (1 : Int32)), .val (.int x1)] [(.int (((x0 &&& (31 : Int32)) <<< ((6 : Int32) &&& 31)) ||| (x1 &&& (63 : Int32))))]))
    refine own_go (fun t k => XS.istoreN X0.here hx rfl (hb hby d2_50) rfl (l' := #[.val (.ref a1), .val (.int p2), .val (.int (2 : Int32)), .val (.int (((x0 &&& (31 : Int32)) <<< ((6 : Int32) &&& 31)) ||| (x1 &&& (63 : Int32)))), .val (.int (1 : Int32)), .val (.int x1)]) rfl k) ?_
    refine own_go (fun t k => XS.iinc X0.here hx rfl (hb hby d2_51) rfl (l' := #[.val (.ref a1), .val (.int p2), .val (.int (2 : Int32)), .val (.int (((x0 &&& (31 : Int32)) <<< ((6 : Int32) &&& 31)) ||| (x1 &&& (63 : Int32)))), .val (.int ((1 : Int32) + (1 : Int32))), .val (.int x1)]) rfl k) ?_
    show own_Run p e below Φ (s₁.setTop (mkF m 54 #[.val (.ref a1), .val (.int p2), .val (.int (2 : Int32)), .val (.int (((x0 &&& (31 : Int32)) <<< ((6 : Int32) &&& 31)) ||| (x1 &&& (63 : Int32)))), .val (.int ((1 : Int32) + (1 : Int32))), .val (.int x1)] []))
    rw [show ((1 : Int32) + (1 : Int32)) = (2 : Int32) from by decide]
    show own_Run p e below Φ (s₁.setTop (mkF m 54 #[.val (.ref a1), .val (.int p2), .val (.int (2 : Int32)), .val (.int (((x0 &&& (31 : Int32)) <<< ((6 : Int32) &&& 31)) ||| (x1 &&& (63 : Int32)))), .val (.int (2 : Int32)), .val (.int x1)] []))
    refine own_go (fun t k => XS.goto X0.here hx rfl (pc0 := 54) (pc' := 12) rfl (hb hby d2_54) (by decide) (by decide) k) ?_
    refine own_go (fun t k => XS.iload X0.here hx rfl (hb hby d2_12) rfl  k) ?_
    refine own_go (fun t k => XS.iloadN X0.here hx rfl (hb hby d2_14) rfl  k) ?_
    refine own_go (fun t k => XS.icmpYes X0.here hx rfl (pc0 := 15) (pc' := 57) rfl (hb hby d2_15) rfl (flt (by decide : ¬ ((2 : Int32) < (2 : Int32)))).2.1 (by decide) (by decide) k) ?_
    refine own_go (fun t k => XS.iloadN X0.here hx rfl (hb hby d2_57) rfl  k) ?_
    show own_Run p e below Φ (s₁.setTop (mkF m 58 #[.val (.ref a1), .val (.int p2), .val (.int (2 : Int32)), .val (.int (((x0 &&& (31 : Int32)) <<< ((6 : Int32) &&& 31)) ||| (x1 &&& (63 : Int32)))), .val (.int (2 : Int32)), .val (.int x1)] [(.int (((x0 &&& (31 : Int32)) <<< ((6 : Int32) &&& 31)) ||| (x1 &&& (63 : Int32))))]))
    obtain ⟨T1, X1, e1, st1⟩ := getS2 X0 hx hZ hown (host := "") (Or.inl (hw _ (List.mem_of_getElem? (i := 10) rfl))) Via.refl e0 (H3.ext H2.2) (g := (mkF m 58 #[.val (.ref a1), .val (.int p2), .val (.int (2 : Int32)), .val (.int (((x0 &&& (31 : Int32)) <<< ((6 : Int32) &&& 31)) ||| (x1 &&& (63 : Int32)))), .val (.int (2 : Int32)), .val (.int x1)] [(.int (((x0 &&& (31 : Int32)) <<< ((6 : Int32) &&& 31)) ||| (x1 &&& (63 : Int32))))])) rfl (hb hby d2_58)
    refine own_go st1 ?_
    refine own_go (fun t k => XS.iloadN X1.here hx rfl (hb hby d2_61) rfl  k) ?_
    refine own_iaload X1 hx hZ e1 H4 (j := (2 : Int32)) (v := (.int (128 : Int32))) ⟨by decide, by decide⟩ rfl (g := (mkF m 62 #[.val (.ref a1), .val (.int p2), .val (.int (2 : Int32)), .val (.int (((x0 &&& (31 : Int32)) <<< ((6 : Int32) &&& 31)) ||| (x1 &&& (63 : Int32)))), .val (.int (2 : Int32)), .val (.int x1)] [(.int (2 : Int32)), (.ref w1), (.int (((x0 &&& (31 : Int32)) <<< ((6 : Int32) &&& 31)) ||| (x1 &&& (63 : Int32))))])) rfl rfl (hb hby d2_62) ?_
    by_cases hc63 : (((x0 &&& (31 : Int32)) <<< ((6 : Int32) &&& 31)) ||| (x1 &&& (63 : Int32))) < (128 : Int32)
    · refine own_go (fun t k => XS.icmpYes X1.here hx rfl (pc0 := 63) (pc' := 84) rfl (hb hby d2_63) rfl (tlt hc63).1 (by decide) (by decide) k) ?_
      refine own_go (fun t k => XS.iconst X1.here hx rfl (hb hby d2_84) k) ?_
      show own_Run p e below Φ (T1.setTop (mkF m 85 #[.val (.ref a1), .val (.int p2), .val (.int (2 : Int32)), .val (.int (((x0 &&& (31 : Int32)) <<< ((6 : Int32) &&& 31)) ||| (x1 &&& (63 : Int32)))), .val (.int (2 : Int32)), .val (.int x1)] [(.int (-1 : Int32))]))
      subst hΦ
      exact own_retI X1 hx Bd.returns hlk (hb hby d2_85) e1 ⟨(by simp only [own_dec2, own_lst, own_c2, if_true, if_false, hc35, hc63] <;> rfl), N0, rfl⟩ (by decide) (by decide)
    · refine own_go (fun t k => XS.icmpNo X1.here hx rfl (hb hby d2_63) rfl (flt hc63).1 k) ?_
      refine own_go (fun t k => XS.iloadN X1.here hx rfl (hb hby d2_66) rfl  k) ?_
      refine own_go (X1.ldcInt hx hown (mvT hZ (hw _ (List.mem_of_getElem? (i := 12) rfl))) (g := (mkF m 67 #[.val (.ref a1), .val (.int p2), .val (.int (2 : Int32)), .val (.int (((x0 &&& (31 : Int32)) <<< ((6 : Int32) &&& 31)) ||| (x1 &&& (63 : Int32)))), .val (.int (2 : Int32)), .val (.int x1)] [(.int (((x0 &&& (31 : Int32)) <<< ((6 : Int32) &&& 31)) ||| (x1 &&& (63 : Int32))))])) rfl (hb hby d2_67)) ?_
      by_cases hc69 : (((x0 &&& (31 : Int32)) <<< ((6 : Int32) &&& 31)) ||| (x1 &&& (63 : Int32))) < (55296 : Int32)
      · refine own_go (fun t k => XS.icmpYes X1.here hx rfl (pc0 := 69) (pc' := 78) rfl (hb hby d2_69) rfl (tlt hc69).1 (by decide) (by decide) k) ?_
        refine own_go (fun t k => XS.iloadN X1.here hx rfl (hb hby d2_78) rfl  k) ?_
        show own_Run p e below Φ (T1.setTop (mkF m 79 #[.val (.ref a1), .val (.int p2), .val (.int (2 : Int32)), .val (.int (((x0 &&& (31 : Int32)) <<< ((6 : Int32) &&& 31)) ||| (x1 &&& (63 : Int32)))), .val (.int (2 : Int32)), .val (.int x1)] [(.int (((x0 &&& (31 : Int32)) <<< ((6 : Int32) &&& 31)) ||| (x1 &&& (63 : Int32))))]))
        refine own_go (X1.ldcInt hx hown (mvT hZ (hw _ (List.mem_of_getElem? (i := 13) rfl))) (g := (mkF m 79 #[.val (.ref a1), .val (.int p2), .val (.int (2 : Int32)), .val (.int (((x0 &&& (31 : Int32)) <<< ((6 : Int32) &&& 31)) ||| (x1 &&& (63 : Int32)))), .val (.int (2 : Int32)), .val (.int x1)] [(.int (((x0 &&& (31 : Int32)) <<< ((6 : Int32) &&& 31)) ||| (x1 &&& (63 : Int32))))])) rfl (hb hby d2_79)) ?_
        by_cases hc81 : (1114111 : Int32) < (((x0 &&& (31 : Int32)) <<< ((6 : Int32) &&& 31)) ||| (x1 &&& (63 : Int32)))
        · refine own_go (fun t k => XS.icmpNo X1.here hx rfl (hb hby d2_81) rfl (tlt hc81).2.2.2 k) ?_
          refine own_go (fun t k => XS.iconst X1.here hx rfl (hb hby d2_84) k) ?_
          subst hΦ
          exact own_retI X1 hx Bd.returns hlk (hb hby d2_85) e1 ⟨(by simp only [own_dec2, own_lst, own_c2, if_true, if_false, hc35, hc63, hc69, hc81] <;> rfl), N0, rfl⟩ (by decide) (by decide)
        · refine own_go (fun t k => XS.icmpYes X1.here hx rfl (pc0 := 81) (pc' := 86) rfl (hb hby d2_81) rfl (flt hc81).2.2.2 (by decide) (by decide) k) ?_
          refine own_go (fun t k => XS.iloadN X1.here hx rfl (hb hby d2_86) rfl  k) ?_
          show own_Run p e below Φ (T1.setTop (mkF m 87 #[.val (.ref a1), .val (.int p2), .val (.int (2 : Int32)), .val (.int (((x0 &&& (31 : Int32)) <<< ((6 : Int32) &&& 31)) ||| (x1 &&& (63 : Int32)))), .val (.int (2 : Int32)), .val (.int x1)] [(.int (((x0 &&& (31 : Int32)) <<< ((6 : Int32) &&& 31)) ||| (x1 &&& (63 : Int32))))]))
          subst hΦ
          exact own_retI X1 hx Bd.returns hlk (hb hby d2_87) e1 ⟨(by simp only [own_dec2, own_lst, own_c2, if_true, if_false, hc35, hc63, hc69, hc81] <;> rfl), N0, rfl⟩ (by decide) (by decide)
      · refine own_go (fun t k => XS.icmpNo X1.here hx rfl (hb hby d2_69) rfl (flt hc69).1 k) ?_
        refine own_go (fun t k => XS.iloadN X1.here hx rfl (hb hby d2_72) rfl  k) ?_
        refine own_go (X1.ldcInt hx hown (mvT hZ (hw _ (List.mem_of_getElem? (i := 14) rfl))) (g := (mkF m 73 #[.val (.ref a1), .val (.int p2), .val (.int (2 : Int32)), .val (.int (((x0 &&& (31 : Int32)) <<< ((6 : Int32) &&& 31)) ||| (x1 &&& (63 : Int32)))), .val (.int (2 : Int32)), .val (.int x1)] [(.int (((x0 &&& (31 : Int32)) <<< ((6 : Int32) &&& 31)) ||| (x1 &&& (63 : Int32))))])) rfl (hb hby d2_73)) ?_
        by_cases hc75 : (57343 : Int32) < (((x0 &&& (31 : Int32)) <<< ((6 : Int32) &&& 31)) ||| (x1 &&& (63 : Int32)))
        · refine own_go (fun t k => XS.icmpNo X1.here hx rfl (hb hby d2_75) rfl (tlt hc75).2.2.2 k) ?_
          refine own_go (fun t k => XS.iloadN X1.here hx rfl (hb hby d2_78) rfl  k) ?_
          show own_Run p e below Φ (T1.setTop (mkF m 79 #[.val (.ref a1), .val (.int p2), .val (.int (2 : Int32)), .val (.int (((x0 &&& (31 : Int32)) <<< ((6 : Int32) &&& 31)) ||| (x1 &&& (63 : Int32)))), .val (.int (2 : Int32)), .val (.int x1)] [(.int (((x0 &&& (31 : Int32)) <<< ((6 : Int32) &&& 31)) ||| (x1 &&& (63 : Int32))))]))
          refine own_go (X1.ldcInt hx hown (mvT hZ (hw _ (List.mem_of_getElem? (i := 13) rfl))) (g := (mkF m 79 #[.val (.ref a1), .val (.int p2), .val (.int (2 : Int32)), .val (.int (((x0 &&& (31 : Int32)) <<< ((6 : Int32) &&& 31)) ||| (x1 &&& (63 : Int32)))), .val (.int (2 : Int32)), .val (.int x1)] [(.int (((x0 &&& (31 : Int32)) <<< ((6 : Int32) &&& 31)) ||| (x1 &&& (63 : Int32))))])) rfl (hb hby d2_79)) ?_
          by_cases hc81 : (1114111 : Int32) < (((x0 &&& (31 : Int32)) <<< ((6 : Int32) &&& 31)) ||| (x1 &&& (63 : Int32)))
          · refine own_go (fun t k => XS.icmpNo X1.here hx rfl (hb hby d2_81) rfl (tlt hc81).2.2.2 k) ?_
            refine own_go (fun t k => XS.iconst X1.here hx rfl (hb hby d2_84) k) ?_
            subst hΦ
            exact own_retI X1 hx Bd.returns hlk (hb hby d2_85) e1 ⟨(by simp only [own_dec2, own_lst, own_c2, if_true, if_false, hc35, hc63, hc69, hc75, hc81] <;> rfl), N0, rfl⟩ (by decide) (by decide)
          · refine own_go (fun t k => XS.icmpYes X1.here hx rfl (pc0 := 81) (pc' := 86) rfl (hb hby d2_81) rfl (flt hc81).2.2.2 (by decide) (by decide) k) ?_
            refine own_go (fun t k => XS.iloadN X1.here hx rfl (hb hby d2_86) rfl  k) ?_
            show own_Run p e below Φ (T1.setTop (mkF m 87 #[.val (.ref a1), .val (.int p2), .val (.int (2 : Int32)), .val (.int (((x0 &&& (31 : Int32)) <<< ((6 : Int32) &&& 31)) ||| (x1 &&& (63 : Int32)))), .val (.int (2 : Int32)), .val (.int x1)] [(.int (((x0 &&& (31 : Int32)) <<< ((6 : Int32) &&& 31)) ||| (x1 &&& (63 : Int32))))]))
            subst hΦ
            exact own_retI X1 hx Bd.returns hlk (hb hby d2_87) e1 ⟨(by simp only [own_dec2, own_lst, own_c2, if_true, if_false, hc35, hc63, hc69, hc75, hc81] <;> rfl), N0, rfl⟩ (by decide) (by decide)
        · refine own_go (fun t k => XS.icmpYes X1.here hx rfl (pc0 := 75) (pc' := 84) rfl (hb hby d2_75) rfl (flt hc75).2.2.2 (by decide) (by decide) k) ?_
          refine own_go (fun t k => XS.iconst X1.here hx rfl (hb hby d2_84) k) ?_
          subst hΦ
          exact own_retI X1 hx Bd.returns hlk (hb hby d2_85) e1 ⟨(by simp only [own_dec2, own_lst, own_c2, if_true, if_false, hc35, hc63, hc69, hc75] <;> rfl), N0, rfl⟩ (by decide) (by decide)
  · refine own_go (fun t k => XS.icmpNo X0.here hx rfl (hb hby d2_35) rfl (feq hc35).1 k) ?_
    refine own_go (fun t k => XS.iconst X0.here hx rfl (hb hby d2_38) k) ?_
    subst hΦ
    exact own_retI X0 hx Bd.returns hlk (hb hby d2_39) e0 ⟨(by simp only [own_dec2, own_lst, own_c2, if_true, if_false, hc35] <;> rfl), N0, rfl⟩ (by decide) (by decide)
set_option maxRecDepth 65536 in
set_option maxHeartbeats 40000000 in
theorem rm_dec3 (l : Launch) (Z : State) (a0 : Array Value) (hw : ∀ d ∈ tables_1, d.before a0 Z = true) (a1 : Addr) (p2 : Int32) (k1 : ClassId) (us : List Value) (d1 : Int32) (x0 : Int32) (x1 : Int32) (x2 : Int32) (w1 : Addr) (kw : ClassId) (h0 : Heap) (n0 : Nat) (H1 : Arv Z h0 a1 k1 .byte (8 : Int32) us (.int d1)) (H2 : Old Z n0 h0) (H3 : Sta Z Z.heap "com/example/templum/templum/validation/Utf8" "LEAST_OF_LENGTH" "[I" (.ref w1)) (H4 : Arv Z h0 w1 kw .int (5 : Int32) [(.int (0 : Int32)), (.int (0 : Int32)), (.int (128 : Int32)), (.int (2048 : Int32)), (.int (65536 : Int32))] (.int (0 : Int32))) (hb0 : ¬ p2 < 0 ∧ p2 < (8 : Int32)) (hv0 : us.getD p2.toNatClampNeg (.int d1) = .int x0) (hb1 : ¬ (p2 + (1 : Int32)) < 0 ∧ (p2 + (1 : Int32)) < (8 : Int32)) (hv1 : us.getD (p2 + (1 : Int32)).toNatClampNeg (.int d1) = .int x1) (hb2 : ¬ (p2 + (2 : Int32)) < 0 ∧ (p2 + (2 : Int32)) < (8 : Int32)) (hv2 : us.getD (p2 + (2 : Int32)).toNatClampNeg (.int d1) = .int x2) :
    own_Met l Z (⟨"com/example/templum/templum/validation/Utf8", "decode", "([BII)I"⟩ : MethodName) prog_118_method_3_code 6 (some .int) ({ frames := 0, cells := 0, slots := 0, locals := 0 } : Room) #[(.ref a1), (.int p2), (.int (3 : Int32))] h0 (fun v h L => v = some (.int (own_dec3 x0 x1 x2)) ∧ Fr n0 L ∧ h = h0) := by
  intro ws
  refine MetFree.of_bodySF (plainFor_of_name pn_c1) hisR ?_
  intro p e s m args below meth c s₁ Bd hml0 hP hK
  obtain ⟨rfl, hZ, hh⟩ := hP
  have hx := Bd.exec
  have hby := Bd.bytes
  have hml : c.maxLocals = 6 := hml0
  have hown : s.vm.findClass "com/example/templum/templum/validation/Utf8" = some m.cls := findClass_of_methodNamed Bd.named
  have hnm := (name_of_methodNamed Bd.named Bd.method).1
  have hlk : meth.locks = false := Bd.notSynchronized
  have X0 : Stand p l e ({ frames := 0, cells := 0, slots := 0, locals := 0 } : Room) s m #[(.ref a1), (.int p2), (.int (3 : Int32))] below meth c s₁ [] 0 0 := Stand.of_body Bd
  have e0 : s₁.heap = h0 := by rw [← hh, Bd.state]; rfl
  have N0 := Fr.nil n0
  refine own_body (Q := fun v h L => v = some (.int (own_dec3 x0 x1 x2)) ∧ Fr n0 L ∧ h = h0) ?_
  generalize hΦ : own_Fin s below _ _ _ = Φ
  refine own_cast (ef_2_RII m a1 p2 (3 : Int32)) ?_
  show own_Run p e below Φ (s₁.setTop (mkF m 0 #[.val (.ref a1), .val (.int p2), .val (.int (3 : Int32)), .unset, .unset, .unset] []))
  refine own_go (fun t k => XS.aloadN X0.here hx rfl (hb hby d2_0) rfl rfl  k) ?_
  refine own_go (fun t k => XS.iloadN X0.here hx rfl (hb hby d2_1) rfl  k) ?_
  refine own_baload X0 hx hZ e0 H1 (j := p2) (v := (.int x0)) hb0 hv0 (g := (mkF m 2 #[.val (.ref a1), .val (.int p2), .val (.int (3 : Int32)), .unset, .unset, .unset] [(.int p2), (.ref a1)])) rfl rfl (hb hby d2_2) ?_
  refine own_go (fun t k => XS.bipush X0.here hx rfl (hb hby d2_3) k) ?_
  refine own_go (fun t k => XS.iloadN X0.here hx rfl (hb hby d2_5) rfl  k) ?_
  show own_Run p e below Φ (s₁.setTop (mkF m 6 #[.val (.ref a1), .val (.int p2), .val (.int (3 : Int32)), .unset, .unset, .unset] [(.int (3 : Int32)), (.int (127 : Int32)), (.int x0)]))
  refine own_go (fun t k => XS.ishr X0.here hx rfl (hb hby d2_6) rfl k) ?_
  show own_Run p e below Φ (s₁.setTop (mkF m 7 #[.val (.ref a1), .val (.int p2), .val (.int (3 : Int32)), .unset, .unset, .unset] [(.int ((127 : Int32) >>> ((3 : Int32) &&& 31))), (.int x0)]))
  rw [show ((127 : Int32) >>> ((3 : Int32) &&& 31)) = (15 : Int32) from by decide]
  show own_Run p e below Φ (s₁.setTop (mkF m 7 #[.val (.ref a1), .val (.int p2), .val (.int (3 : Int32)), .unset, .unset, .unset] [(.int (15 : Int32)), (.int x0)]))
  refine own_go (fun t k => XS.iand X0.here hx rfl (hb hby d2_7) rfl k) ?_
  refine own_go (fun t k => XS.istoreN X0.here hx rfl (hb hby d2_8) rfl (l' := #[.val (.ref a1), .val (.int p2), .val (.int (3 : Int32)), .val (.int (x0 &&& (15 : Int32))), .unset, .unset]) rfl k) ?_
  refine own_go (fun t k => XS.iconst X0.here hx rfl (hb hby d2_9) k) ?_
  refine own_go (fun t k => XS.istore X0.here hx rfl (hb hby d2_10) rfl (l' := #[.val (.ref a1), .val (.int p2), .val (.int (3 : Int32)), .val (.int (x0 &&& (15 : Int32))), .val (.int (1 : Int32)), .unset]) rfl k) ?_
  refine own_go (fun t k => XS.iload X0.here hx rfl (hb hby d2_12) rfl  k) ?_
  show own_Run p e below Φ (s₁.setTop (mkF m 14 #[.val (.ref a1), .val (.int p2), .val (.int (3 : Int32)), .val (.int (x0 &&& (15 : Int32))), .val (.int (1 : Int32)), .unset] [(.int (1 : Int32))]))
  refine own_go (fun t k => XS.iloadN X0.here hx rfl (hb hby d2_14) rfl  k) ?_
  refine own_go (fun t k => XS.icmpNo X0.here hx rfl (hb hby d2_15) rfl (tlt (by decide : (1 : Int32) < (3 : Int32))).2.1 k) ?_
  refine own_go (fun t k => XS.aloadN X0.here hx rfl (hb hby d2_18) rfl rfl  k) ?_
  refine own_go (fun t k => XS.iloadN X0.here hx rfl (hb hby d2_19) rfl  k) ?_
  refine own_go (fun t k => XS.iload X0.here hx rfl (hb hby d2_20) rfl  k) ?_
  show own_Run p e below Φ (s₁.setTop (mkF m 22 #[.val (.ref a1), .val (.int p2), .val (.int (3 : Int32)), .val (.int (x0 &&& (15 : Int32))), .val (.int (1 : Int32)), .unset] [(.int (1 : Int32)), (.int p2), (.ref a1)]))
  refine own_go (fun t k => XS.iadd X0.here hx rfl (hb hby d2_22) rfl k) ?_
  refine own_baload X0 hx hZ e0 H1 (j := (p2 + (1 : Int32))) (v := (.int x1)) hb1 hv1 (g := (mkF m 23 #[.val (.ref a1), .val (.int p2), .val (.int (3 : Int32)), .val (.int (x0 &&& (15 : Int32))), .val (.int (1 : Int32)), .unset] [(.int (p2 + (1 : Int32))), (.ref a1)])) rfl rfl (hb hby d2_23) ?_
  refine own_go (fun t k => XS.istore X0.here hx rfl (hb hby d2_24) rfl (l' := #[.val (.ref a1), .val (.int p2), .val (.int (3 : Int32)), .val (.int (x0 &&& (15 : Int32))), .val (.int (1 : Int32)), .val (.int x1)]) rfl k) ?_
  refine own_go (fun t k => XS.iload X0.here hx rfl (hb hby d2_26) rfl  k) ?_
  refine own_go (fun t k => XS.sipush X0.here hx rfl (hb hby d2_28) k) ?_
  show own_Run p e below Φ (s₁.setTop (mkF m 31 #[.val (.ref a1), .val (.int p2), .val (.int (3 : Int32)), .val (.int (x0 &&& (15 : Int32))), .val (.int (1 : Int32)), .val (.int x1)] [(.int (192 : Int32)), (.int x1)]))
  refine own_go (fun t k => XS.iand X0.here hx rfl (hb hby d2_31) rfl k) ?_
  refine own_go (fun t k => XS.sipush X0.here hx rfl (hb hby d2_32) k) ?_
  by_cases hc35 : (x1 &&& (192 : Int32)) = (128 : Int32)
  · refine own_go (fun t k => XS.icmpYes X0.here hx rfl (pc0 := 35) (pc' := 40) rfl (hb hby d2_35) rfl (teq hc35).1 (by decide) (by decide) k) ?_
    refine own_go (fun t k => XS.iloadN X0.here hx rfl (hb hby d2_40) rfl  k) ?_
    refine own_go (fun t k => XS.bipush X0.here hx rfl (hb hby d2_41) k) ?_
    show own_Run p e below Φ (s₁.setTop (mkF m 43 #[.val (.ref a1), .val (.int p2), .val (.int (3 : Int32)), .val (.int (x0 &&& (15 : Int32))), .val (.int (1 : Int32)), .val (.int x1)] [(.int (6 : Int32)), (.int (x0 &&& (15 : Int32)))]))
    refine own_go (fun t k => XS.ishl X0.here hx rfl (hb hby d2_43) rfl k) ?_
    refine own_go (fun t k => XS.iload X0.here hx rfl (hb hby d2_44) rfl  k) ?_
    refine own_go (fun t k => XS.bipush X0.here hx rfl (hb hby d2_46) k) ?_
    refine own_go (fun t k => XS.iand X0.here hx rfl (hb hby d2_48) rfl k) ?_
    refine own_go (fun t k => XS.ior X0.here hx rfl (hb hby d2_49) rfl k) ?_
    show own_Run p e below Φ (s₁.setTop (mkF m 50 #[.val (.ref a1), .val (.int p2), .val (.int (3 : Int32)), .val (.int (x0 &&& (15 : Int32))), .val (.int (1 : Int32)), .val (.int x1)] [(.int (((x0 &&& (15 : Int32)) <<< ((6 : Int32) &&& 31)) ||| (x1 &&& (63 : Int32))))]))
    refine own_go (fun t k => XS.istoreN X0.here hx rfl (hb hby d2_50) rfl (l' := #[.val (.ref a1), .val (.int p2), .val (.int (3 : Int32)), .val (.int (((x0 &&& (15 : Int32)) <<< ((6 : Int32) &&& 31)) ||| (x1 &&& (63 : Int32)))), .val (.int (1 : Int32)), .val (.int x1)]) rfl k) ?_
    refine own_go (fun t k => XS.iinc X0.here hx rfl (hb hby d2_51) rfl (l' := #[.val (.ref a1), .val (.int p2), .val (.int (3 : Int32)), .val (.int (((x0 &&& (15 : Int32)) <<< ((6 : Int32) &&& 31)) ||| (x1 &&& (63 : Int32)))), .val (.int ((1 : Int32) + (1 : Int32))), .val (.int x1)]) rfl k) ?_
    show own_Run p e below Φ (s₁.setTop (mkF m 54 #[.val (.ref a1), .val (.int p2), .val (.int (3 : Int32)), .val (.int (((x0 &&& (15 : Int32)) <<< ((6 : Int32) &&& 31)) ||| (x1 &&& (63 : Int32)))), .val (.int ((1 : Int32) + (1 : Int32))), .val (.int x1)] []))
    rw [show ((1 : Int32) + (1 : Int32)) = (2 : Int32) from by decide]
    show own_Run p e below Φ (s₁.setTop (mkF m 54 #[.val (.ref a1), .val (.int p2), .val (.int (3 : Int32)), .val (.int (((x0 &&& (15 : Int32)) <<< ((6 : Int32) &&& 31)) ||| (x1 &&& (63 : Int32)))), .val (.int (2 : Int32)), .val (.int x1)] []))
    refine own_go (fun t k => XS.goto X0.here hx rfl (pc0 := 54) (pc' := 12) rfl (hb hby d2_54) (by decide) (by decide) k) ?_
    refine own_go (fun t k => XS.iload X0.here hx rfl (hb hby d2_12) rfl  k) ?_
    refine own_go (fun t k => XS.iloadN X0.here hx rfl (hb hby d2_14) rfl  k) ?_
    refine own_go (fun t k => XS.icmpNo X0.here hx rfl (hb hby d2_15) rfl (tlt (by decide : (2 : Int32) < (3 : Int32))).2.1 k) ?_
    refine own_go (fun t k => XS.aloadN X0.here hx rfl (hb hby d2_18) rfl rfl  k) ?_
    show own_Run p e below Φ (s₁.setTop (mkF m 19 #[.val (.ref a1), .val (.int p2), .val (.int (3 : Int32)), .val (.int (((x0 &&& (15 : Int32)) <<< ((6 : Int32) &&& 31)) ||| (x1 &&& (63 : Int32)))), .val (.int (2 : Int32)), .val (.int x1)] [(.ref a1)]))
    refine own_go (fun t k => XS.iloadN X0.here hx rfl (hb hby d2_19) rfl  k) ?_
    refine own_go (fun t k => XS.iload X0.here hx rfl (hb hby d2_20) rfl  k) ?_
    refine own_go (fun t k => XS.iadd X0.here hx rfl (hb hby d2_22) rfl k) ?_
    refine own_baload X0 hx hZ e0 H1 (j := (p2 + (2 : Int32))) (v := (.int x2)) hb2 hv2 (g := (mkF m 23 #[.val (.ref a1), .val (.int p2), .val (.int (3 : Int32)), .val (.int (((x0 &&& (15 : Int32)) <<< ((6 : Int32) &&& 31)) ||| (x1 &&& (63 : Int32)))), .val (.int (2 : Int32)), .val (.int x1)] [(.int (p2 + (2 : Int32))), (.ref a1)])) rfl rfl (hb hby d2_23) ?_
    refine own_go (fun t k => XS.istore X0.here hx rfl (hb hby d2_24) rfl (l' := #[.val (.ref a1), .val (.int p2), .val (.int (3 : Int32)), .val (.int (((x0 &&& (15 : Int32)) <<< ((6 : Int32) &&& 31)) ||| (x1 &&& (63 : Int32)))), .val (.int (2 : Int32)), .val (.int x2)]) rfl k) ?_
    show own_Run p e below Φ (s₁.setTop (mkF m 26 #[.val (.ref a1), .val (.int p2), .val (.int (3 : Int32)), .val (.int (((x0 &&& (15 : Int32)) <<< ((6 : Int32) &&& 31)) ||| (x1 &&& (63 : Int32)))), .val (.int (2 : Int32)), .val (.int x2)] []))
    refine own_go (fun t k => XS.iload X0.here hx rfl (hb hby d2_26) rfl  k) ?_
    refine own_go (fun t k => XS.sipush X0.here hx rfl (hb hby d2_28) k) ?_
    refine own_go (fun t k => XS.iand X0.here hx rfl (hb hby d2_31) rfl k) ?_
    refine own_go (fun t k => XS.sipush X0.here hx rfl (hb hby d2_32) k) ?_
    by_cases hc35_2 : (x2 &&& (192 : Int32)) = (128 : Int32)
    · refine own_go (fun t k => XS.icmpYes X0.here hx rfl (pc0 := 35) (pc' := 40) rfl (hb hby d2_35) rfl (teq hc35_2).1 (by decide) (by decide) k) ?_
      show own_Run p e below Φ (s₁.setTop (mkF m 40 #[.val (.ref a1), .val (.int p2), .val (.int (3 : Int32)), .val (.int (((x0 &&& (15 : Int32)) <<< ((6 : Int32) &&& 31)) ||| (x1 &&& (63 : Int32)))), .val (.int (2 : Int32)), .val (.int x2)] []))
      refine own_go (fun t k => XS.iloadN X0.here hx rfl (hb hby d2_40) rfl  k) ?_
      refine own_go (fun t k => XS.bipush X0.here hx rfl (hb hby d2_41) k) ?_
      refine own_go (fun t k => XS.ishl X0.here hx rfl (hb hby d2_43) rfl k) ?_
      refine own_go (fun t k => XS.iload X0.here hx rfl (hb hby d2_44) rfl  k) ?_
      refine own_go (fun t k => XS.bipush X0.here hx rfl (hb hby d2_46) k) ?_
      show own_Run p e below Φ (s₁.setTop (mkF m 48 #[.val (.ref a1), .val (.int p2), .val (.int (3 : Int32)), .val (.int (((x0 &&& (15 : Int32)) <<< ((6 : Int32) &&& 31)) ||| (x1 &&& (63 : Int32)))), .val (.int (2 : Int32)), .val (.int x2)] [(.int (63 : Int32)), (.int x2), (.int ((((x0 &&& (15 : Int32)) <<< ((6 : Int32) &&& 31)) ||| (x1 &&& (63 : Int32))) <<< ((6 : Int32) &&& 31)))]))
      refine own_go (fun t k => XS.iand X0.here hx rfl (hb hby d2_48) rfl k) ?_
      refine own_go (fun t k => XS.ior X0.here hx rfl (hb hby d2_49) rfl k) ?_
      refine own_go (fun t k => XS.istoreN X0.here hx rfl (hb hby d2_50) rfl (l' := #[.val (.ref a1), .val (.int p2), .val (.int (3 : Int32)), .val (.int (((((x0 &&& (15 : Int32)) <<< ((6 : Int32) &&& 31)) ||| (x1 &&& (63 : Int32))) <<< ((6 : Int32) &&& 31)) ||| (x2 &&& (63 : Int32)))), .val (.int (2 : Int32)), .val (.int x2)]) rfl k) ?_
      refine own_go (fun t k => XS.iinc X0.here hx rfl (hb hby d2_51) rfl (l' := #[.val (.ref a1), .val (.int p2), .val (.int (3 : Int32)), .val (.int (((((x0 &&& (15 : Int32)) <<< ((6 : Int32) &&& 31)) ||| (x1 &&& (63 : Int32))) <<< ((6 : Int32) &&& 31)) ||| (x2 &&& (63 : Int32)))), .val (.int ((2 : Int32) + (1 : Int32))), .val (.int x2)]) rfl k) ?_
      show own_Run p e below Φ (s₁.setTop (mkF m 54 #[.val (.ref a1), .val (.int p2), .val (.int (3 : Int32)), .val (.int (((((x0 &&& (15 : Int32)) <<< ((6 : Int32) &&& 31)) ||| (x1 &&& (63 : Int32))) <<< ((6 : Int32) &&& 31)) ||| (x2 &&& (63 : Int32)))), .val (.int ((2 : Int32) + (1 : Int32))), .val (.int x2)] []))
      rw [show ((2 : Int32) + (1 : Int32)) = (3 : Int32) from by decide]
      show own_Run p e below Φ (s₁.setTop (mkF m 54 #[.val (.ref a1), .val (.int p2), .val (.int (3 : Int32)), .val (.int (((((x0 &&& (15 : Int32)) <<< ((6 : Int32) &&& 31)) ||| (x1 &&& (63 : Int32))) <<< ((6 : Int32) &&& 31)) ||| (x2 &&& (63 : Int32)))), .val (.int (3 : Int32)), .val (.int x2)] []))
      refine own_go (fun t k => XS.goto X0.here hx rfl (pc0 := 54) (pc' := 12) rfl (hb hby d2_54) (by decide) (by decide) k) ?_
      refine own_go (fun t k => XS.iload X0.here hx rfl (hb hby d2_12) rfl  k) ?_
      refine own_go (fun t k => XS.iloadN X0.here hx rfl (hb hby d2_14) rfl  k) ?_
      refine own_go (fun t k => XS.icmpYes X0.here hx rfl (pc0 := 15) (pc' := 57) rfl (hb hby d2_15) rfl (flt (by decide : ¬ ((3 : Int32) < (3 : Int32)))).2.1 (by decide) (by decide) k) ?_
      refine own_go (fun t k => XS.iloadN X0.here hx rfl (hb hby d2_57) rfl  k) ?_
      show own_Run p e below Φ (s₁.setTop (mkF m 58 #[.val (.ref a1), .val (.int p2), .val (.int (3 : Int32)), .val (.int (((((x0 &&& (15 : Int32)) <<< ((6 : Int32) &&& 31)) ||| (x1 &&& (63 : Int32))) <<< ((6 : Int32) &&& 31)) ||| (x2 &&& (63 : Int32)))), .val (.int (3 : Int32)), .val (.int x2)] [(.int (((((x0 &&& (15 : Int32)) <<< ((6 : Int32) &&& 31)) ||| (x1 &&& (63 : Int32))) <<< ((6 : Int32) &&& 31)) ||| (x2 &&& (63 : Int32))))]))
      obtain ⟨T1, X1, e1, st1⟩ := getS2 X0 hx hZ hown (host := "") (Or.inl (hw _ (List.mem_of_getElem? (i := 10) rfl))) Via.refl e0 (H3.ext H2.2) (g := (mkF m 58 #[.val (.ref a1), .val (.int p2), .val (.int (3 : Int32)), .val (.int (((((x0 &&& (15 : Int32)) <<< ((6 : Int32) &&& 31)) ||| (x1 &&& (63 : Int32))) <<< ((6 : Int32) &&& 31)) ||| (x2 &&& (63 : Int32)))), .val (.int (3 : Int32)), .val (.int x2)] [(.int (((((x0 &&& (15 : Int32)) <<< ((6 : Int32) &&& 31)) ||| (x1 &&& (63 : Int32))) <<< ((6 : Int32) &&& 31)) ||| (x2 &&& (63 : Int32))))])) rfl (hb hby d2_58)
      refine own_go st1 ?_
      refine own_go (fun t k => XS.iloadN X1.here hx rfl (hb hby d2_61) rfl  k) ?_
      refine own_iaload X1 hx hZ e1 H4 (j := (3 : Int32)) (v := (.int (2048 : Int32))) ⟨by decide, by decide⟩ rfl (g := (mkF m 62 #[.val (.ref a1), .val (.int p2), .val (.int (3 : Int32)), .val (.int (((((x0 &&& (15 : Int32)) <<< ((6 : Int32) &&& 31)) ||| (x1 &&& (63 : Int32))) <<< ((6 : Int32) &&& 31)) ||| (x2 &&& (63 : Int32)))), .val (.int (3 : Int32)), .val (.int x2)] [(.int (3 : Int32)), (.ref w1), (.int (((((x0 &&& (15 : Int32)) <<< ((6 : Int32) &&& 31)) ||| (x1 &&& (63 : Int32))) <<< ((6 : Int32) &&& 31)) ||| (x2 &&& (63 : Int32))))])) rfl rfl (hb hby d2_62) ?_
      by_cases hc63 : (((((x0 &&& (15 : Int32)) <<< ((6 : Int32) &&& 31)) ||| (x1 &&& (63 : Int32))) <<< ((6 : Int32) &&& 31)) ||| (x2 &&& (63 : Int32))) < (2048 : Int32)
      · refine own_go (fun t k => XS.icmpYes X1.here hx rfl (pc0 := 63) (pc' := 84) rfl (hb hby d2_63) rfl (tlt hc63).1 (by decide) (by decide) k) ?_
        refine own_go (fun t k => XS.iconst X1.here hx rfl (hb hby d2_84) k) ?_
        show own_Run p e below Φ (T1.setTop (mkF m 85 #[.val (.ref a1), .val (.int p2), .val (.int (3 : Int32)), .val (.int (((((x0 &&& (15 : Int32)) <<< ((6 : Int32) &&& 31)) ||| (x1 &&& (63 : Int32))) <<< ((6 : Int32) &&& 31)) ||| (x2 &&& (63 : Int32)))), .val (.int (3 : Int32)), .val (.int x2)] [(.int (-1 : Int32))]))
        subst hΦ
        exact own_retI X1 hx Bd.returns hlk (hb hby d2_85) e1 ⟨(by simp only [own_dec3, own_lst, own_c3, if_true, if_false, hc35, hc35_2, hc63] <;> rfl), N0, rfl⟩ (by decide) (by decide)
      · refine own_go (fun t k => XS.icmpNo X1.here hx rfl (hb hby d2_63) rfl (flt hc63).1 k) ?_
        refine own_go (fun t k => XS.iloadN X1.here hx rfl (hb hby d2_66) rfl  k) ?_
        refine own_go (X1.ldcInt hx hown (mvT hZ (hw _ (List.mem_of_getElem? (i := 12) rfl))) (g := (mkF m 67 #[.val (.ref a1), .val (.int p2), .val (.int (3 : Int32)), .val (.int (((((x0 &&& (15 : Int32)) <<< ((6 : Int32) &&& 31)) ||| (x1 &&& (63 : Int32))) <<< ((6 : Int32) &&& 31)) ||| (x2 &&& (63 : Int32)))), .val (.int (3 : Int32)), .val (.int x2)] [(.int (((((x0 &&& (15 : Int32)) <<< ((6 : Int32) &&& 31)) ||| (x1 &&& (63 : Int32))) <<< ((6 : Int32) &&& 31)) ||| (x2 &&& (63 : Int32))))])) rfl (hb hby d2_67)) ?_
        by_cases hc69 : (((((x0 &&& (15 : Int32)) <<< ((6 : Int32) &&& 31)) ||| (x1 &&& (63 : Int32))) <<< ((6 : Int32) &&& 31)) ||| (x2 &&& (63 : Int32))) < (55296 : Int32)
        · refine own_go (fun t k => XS.icmpYes X1.here hx rfl (pc0 := 69) (pc' := 78) rfl (hb hby d2_69) rfl (tlt hc69).1 (by decide) (by decide) k) ?_
          refine own_go (fun t k => XS.iloadN X1.here hx rfl (hb hby d2_78) rfl  k) ?_
          show own_Run p e below Φ (T1.setTop (mkF m 79 #[.val (.ref a1), .val (.int p2), .val (.int (3 : Int32)), .val (.int (((((x0 &&& (15 : Int32)) <<< ((6 : Int32) &&& 31)) ||| (x1 &&& (63 : Int32))) <<< ((6 : Int32) &&& 31)) ||| (x2 &&& (63 : Int32)))), .val (.int (3 : Int32)), .val (.int x2)] [(.int (((((x0 &&& (15 : Int32)) <<< ((6 : Int32) &&& 31)) ||| (x1 &&& (63 : Int32))) <<< ((6 : Int32) &&& 31)) ||| (x2 &&& (63 : Int32))))]))
          refine own_go (X1.ldcInt hx hown (mvT hZ (hw _ (List.mem_of_getElem? (i := 13) rfl))) (g := (mkF m 79 #[.val (.ref a1), .val (.int p2), .val (.int (3 : Int32)), .val (.int (((((x0 &&& (15 : Int32)) <<< ((6 : Int32) &&& 31)) ||| (x1 &&& (63 : Int32))) <<< ((6 : Int32) &&& 31)) ||| (x2 &&& (63 : Int32)))), .val (.int (3 : Int32)), .val (.int x2)] [(.int (((((x0 &&& (15 : Int32)) <<< ((6 : Int32) &&& 31)) ||| (x1 &&& (63 : Int32))) <<< ((6 : Int32) &&& 31)) ||| (x2 &&& (63 : Int32))))])) rfl (hb hby d2_79)) ?_
          by_cases hc81 : (1114111 : Int32) < (((((x0 &&& (15 : Int32)) <<< ((6 : Int32) &&& 31)) ||| (x1 &&& (63 : Int32))) <<< ((6 : Int32) &&& 31)) ||| (x2 &&& (63 : Int32)))
          · refine own_go (fun t k => XS.icmpNo X1.here hx rfl (hb hby d2_81) rfl (tlt hc81).2.2.2 k) ?_
            refine own_go (fun t k => XS.iconst X1.here hx rfl (hb hby d2_84) k) ?_
            subst hΦ
            exact own_retI X1 hx Bd.returns hlk (hb hby d2_85) e1 ⟨(by simp only [own_dec3, own_lst, own_c3, if_true, if_false, hc35, hc35_2, hc63, hc69, hc81] <;> rfl), N0, rfl⟩ (by decide) (by decide)
          · refine own_go (fun t k => XS.icmpYes X1.here hx rfl (pc0 := 81) (pc' := 86) rfl (hb hby d2_81) rfl (flt hc81).2.2.2 (by decide) (by decide) k) ?_
            refine own_go (fun t k => XS.iloadN X1.here hx rfl (hb hby d2_86) rfl  k) ?_
            show own_Run p e below Φ (T1.setTop (mkF m 87 #[.val (.ref a1), .val (.int p2), .val (.int (3 : Int32)), .val (.int (((((x0 &&& (15 : Int32)) <<< ((6 : Int32) &&& 31)) ||| (x1 &&& (63 : Int32))) <<< ((6 : Int32) &&& 31)) ||| (x2 &&& (63 : Int32)))), .val (.int (3 : Int32)), .val (.int x2)] [(.int (((((x0 &&& (15 : Int32)) <<< ((6 : Int32) &&& 31)) ||| (x1 &&& (63 : Int32))) <<< ((6 : Int32) &&& 31)) ||| (x2 &&& (63 : Int32))))]))
            subst hΦ
            exact own_retI X1 hx Bd.returns hlk (hb hby d2_87) e1 ⟨(by simp only [own_dec3, own_lst, own_c3, if_true, if_false, hc35, hc35_2, hc63, hc69, hc81] <;> rfl), N0, rfl⟩ (by decide) (by decide)
        · refine own_go (fun t k => XS.icmpNo X1.here hx rfl (hb hby d2_69) rfl (flt hc69).1 k) ?_
          refine own_go (fun t k => XS.iloadN X1.here hx rfl (hb hby d2_72) rfl  k) ?_
          refine own_go (X1.ldcInt hx hown (mvT hZ (hw _ (List.mem_of_getElem? (i := 14) rfl))) (g := (mkF m 73 #[.val (.ref a1), .val (.int p2), .val (.int (3 : Int32)), .val (.int (((((x0 &&& (15 : Int32)) <<< ((6 : Int32) &&& 31)) ||| (x1 &&& (63 : Int32))) <<< ((6 : Int32) &&& 31)) ||| (x2 &&& (63 : Int32)))), .val (.int (3 : Int32)), .val (.int x2)] [(.int (((((x0 &&& (15 : Int32)) <<< ((6 : Int32) &&& 31)) ||| (x1 &&& (63 : Int32))) <<< ((6 : Int32) &&& 31)) ||| (x2 &&& (63 : Int32))))])) rfl (hb hby d2_73)) ?_
          by_cases hc75 : (57343 : Int32) < (((((x0 &&& (15 : Int32)) <<< ((6 : Int32) &&& 31)) ||| (x1 &&& (63 : Int32))) <<< ((6 : Int32) &&& 31)) ||| (x2 &&& (63 : Int32)))
          · refine own_go (fun t k => XS.icmpNo X1.here hx rfl (hb hby d2_75) rfl (tlt hc75).2.2.2 k) ?_
            refine own_go (fun t k => XS.iloadN X1.here hx rfl (hb hby d2_78) rfl  k) ?_
            show own_Run p e below Φ (T1.setTop (mkF m 79 #[.val (.ref a1), .val (.int p2), .val (.int (3 : Int32)), .val (.int (((((x0 &&& (15 : Int32)) <<< ((6 : Int32) &&& 31)) ||| (x1 &&& (63 : Int32))) <<< ((6 : Int32) &&& 31)) ||| (x2 &&& (63 : Int32)))), .val (.int (3 : Int32)), .val (.int x2)] [(.int (((((x0 &&& (15 : Int32)) <<< ((6 : Int32) &&& 31)) ||| (x1 &&& (63 : Int32))) <<< ((6 : Int32) &&& 31)) ||| (x2 &&& (63 : Int32))))]))
            refine own_go (X1.ldcInt hx hown (mvT hZ (hw _ (List.mem_of_getElem? (i := 13) rfl))) (g := (mkF m 79 #[.val (.ref a1), .val (.int p2), .val (.int (3 : Int32)), .val (.int (((((x0 &&& (15 : Int32)) <<< ((6 : Int32) &&& 31)) ||| (x1 &&& (63 : Int32))) <<< ((6 : Int32) &&& 31)) ||| (x2 &&& (63 : Int32)))), .val (.int (3 : Int32)), .val (.int x2)] [(.int (((((x0 &&& (15 : Int32)) <<< ((6 : Int32) &&& 31)) ||| (x1 &&& (63 : Int32))) <<< ((6 : Int32) &&& 31)) ||| (x2 &&& (63 : Int32))))])) rfl (hb hby d2_79)) ?_
            by_cases hc81 : (1114111 : Int32) < (((((x0 &&& (15 : Int32)) <<< ((6 : Int32) &&& 31)) ||| (x1 &&& (63 : Int32))) <<< ((6 : Int32) &&& 31)) ||| (x2 &&& (63 : Int32)))
            · refine own_go (fun t k => XS.icmpNo X1.here hx rfl (hb hby d2_81) rfl (tlt hc81).2.2.2 k) ?_
              refine own_go (fun t k => XS.iconst X1.here hx rfl (hb hby d2_84) k) ?_
              subst hΦ
              exact own_retI X1 hx Bd.returns hlk (hb hby d2_85) e1 ⟨(by simp only [own_dec3, own_lst, own_c3, if_true, if_false, hc35, hc35_2, hc63, hc69, hc75, hc81] <;> rfl), N0, rfl⟩ (by decide) (by decide)
            · refine own_go (fun t k => XS.icmpYes X1.here hx rfl (pc0 := 81) (pc' := 86) rfl (hb hby d2_81) rfl (flt hc81).2.2.2 (by decide) (by decide) k) ?_
              refine own_go (fun t k => XS.iloadN X1.here hx rfl (hb hby d2_86) rfl  k) ?_
              show own_Run p e below Φ (T1.setTop (mkF m 87 #[.val (.ref a1), .val (.int p2), .val (.int (3 : Int32)), .val (.int (((((x0 &&& (15 : Int32)) <<< ((6 : Int32) &&& 31)) ||| (x1 &&& (63 : Int32))) <<< ((6 : Int32) &&& 31)) ||| (x2 &&& (63 : Int32)))), .val (.int (3 : Int32)), .val (.int x2)] [(.int (((((x0 &&& (15 : Int32)) <<< ((6 : Int32) &&& 31)) ||| (x1 &&& (63 : Int32))) <<< ((6 : Int32) &&& 31)) ||| (x2 &&& (63 : Int32))))]))
              subst hΦ
              exact own_retI X1 hx Bd.returns hlk (hb hby d2_87) e1 ⟨(by simp only [own_dec3, own_lst, own_c3, if_true, if_false, hc35, hc35_2, hc63, hc69, hc75, hc81] <;> rfl), N0, rfl⟩ (by decide) (by decide)
          · refine own_go (fun t k => XS.icmpYes X1.here hx rfl (pc0 := 75) (pc' := 84) rfl (hb hby d2_75) rfl (flt hc75).2.2.2 (by decide) (by decide) k) ?_
            refine own_go (fun t k => XS.iconst X1.here hx rfl (hb hby d2_84) k) ?_
            subst hΦ
            exact own_retI X1 hx Bd.returns hlk (hb hby d2_85) e1 ⟨(by simp only [own_dec3, own_lst, own_c3, if_true, if_false, hc35, hc35_2, hc63, hc69, hc75] <;> rfl), N0, rfl⟩ (by decide) (by decide)
    · refine own_go (fun t k => XS.icmpNo X0.here hx rfl (hb hby d2_35) rfl (feq hc35_2).1 k) ?_
      refine own_go (fun t k => XS.iconst X0.here hx rfl (hb hby d2_38) k) ?_
      subst hΦ
      exact own_retI X0 hx Bd.returns hlk (hb hby d2_39) e0 ⟨(by simp only [own_dec3, own_lst, own_c3, if_true, if_false, hc35, hc35_2] <;> rfl), N0, rfl⟩ (by decide) (by decide)
  · refine own_go (fun t k => XS.icmpNo X0.here hx rfl (hb hby d2_35) rfl (feq hc35).1 k) ?_
    show own_Run p e below Φ (s₁.setTop (mkF m 38 #[.val (.ref a1), .val (.int p2), .val (.int (3 : Int32)), .val (.int (x0 &&& (15 : Int32))), .val (.int (1 : Int32)), .val (.int x1)] []))
    refine own_go (fun t k => XS.iconst X0.here hx rfl (hb hby d2_38) k) ?_
    subst hΦ
    exact own_retI X0 hx Bd.returns hlk (hb hby d2_39) e0 ⟨(by simp only [own_dec3, own_lst, own_c3, if_true, if_false, hc35] <;> rfl), N0, rfl⟩ (by decide) (by decide)
set_option maxRecDepth 65536 in
set_option maxHeartbeats 40000000 in
theorem rm_dec4 (l : Launch) (Z : State) (a0 : Array Value) (hw : ∀ d ∈ tables_1, d.before a0 Z = true) (a1 : Addr) (p2 : Int32) (k1 : ClassId) (us : List Value) (d1 : Int32) (x0 : Int32) (x1 : Int32) (x2 : Int32) (x3 : Int32) (w1 : Addr) (kw : ClassId) (h0 : Heap) (n0 : Nat) (H1 : Arv Z h0 a1 k1 .byte (8 : Int32) us (.int d1)) (H2 : Old Z n0 h0) (H3 : Sta Z Z.heap "com/example/templum/templum/validation/Utf8" "LEAST_OF_LENGTH" "[I" (.ref w1)) (H4 : Arv Z h0 w1 kw .int (5 : Int32) [(.int (0 : Int32)), (.int (0 : Int32)), (.int (128 : Int32)), (.int (2048 : Int32)), (.int (65536 : Int32))] (.int (0 : Int32))) (hb0 : ¬ p2 < 0 ∧ p2 < (8 : Int32)) (hv0 : us.getD p2.toNatClampNeg (.int d1) = .int x0) (hb1 : ¬ (p2 + (1 : Int32)) < 0 ∧ (p2 + (1 : Int32)) < (8 : Int32)) (hv1 : us.getD (p2 + (1 : Int32)).toNatClampNeg (.int d1) = .int x1) (hb2 : ¬ (p2 + (2 : Int32)) < 0 ∧ (p2 + (2 : Int32)) < (8 : Int32)) (hv2 : us.getD (p2 + (2 : Int32)).toNatClampNeg (.int d1) = .int x2) (hb3 : ¬ (p2 + (3 : Int32)) < 0 ∧ (p2 + (3 : Int32)) < (8 : Int32)) (hv3 : us.getD (p2 + (3 : Int32)).toNatClampNeg (.int d1) = .int x3) :
    own_Met l Z (⟨"com/example/templum/templum/validation/Utf8", "decode", "([BII)I"⟩ : MethodName) prog_118_method_3_code 6 (some .int) ({ frames := 0, cells := 0, slots := 0, locals := 0 } : Room) #[(.ref a1), (.int p2), (.int (4 : Int32))] h0 (fun v h L => v = some (.int (own_dec4 x0 x1 x2 x3)) ∧ Fr n0 L ∧ h = h0) := by
  intro ws
  refine MetFree.of_bodySF (plainFor_of_name pn_c1) hisR ?_
  intro p e s m args below meth c s₁ Bd hml0 hP hK
  obtain ⟨rfl, hZ, hh⟩ := hP
  have hx := Bd.exec
  have hby := Bd.bytes
  have hml : c.maxLocals = 6 := hml0
  have hown : s.vm.findClass "com/example/templum/templum/validation/Utf8" = some m.cls := findClass_of_methodNamed Bd.named
  have hnm := (name_of_methodNamed Bd.named Bd.method).1
  have hlk : meth.locks = false := Bd.notSynchronized
  have X0 : Stand p l e ({ frames := 0, cells := 0, slots := 0, locals := 0 } : Room) s m #[(.ref a1), (.int p2), (.int (4 : Int32))] below meth c s₁ [] 0 0 := Stand.of_body Bd
  have e0 : s₁.heap = h0 := by rw [← hh, Bd.state]; rfl
  have N0 := Fr.nil n0
  refine own_body (Q := fun v h L => v = some (.int (own_dec4 x0 x1 x2 x3)) ∧ Fr n0 L ∧ h = h0) ?_
  generalize hΦ : own_Fin s below _ _ _ = Φ
  refine own_cast (ef_2_RII m a1 p2 (4 : Int32)) ?_
  show own_Run p e below Φ (s₁.setTop (mkF m 0 #[.val (.ref a1), .val (.int p2), .val (.int (4 : Int32)), .unset, .unset, .unset] []))
  refine own_go (fun t k => XS.aloadN X0.here hx rfl (hb hby d2_0) rfl rfl  k) ?_
  refine own_go (fun t k => XS.iloadN X0.here hx rfl (hb hby d2_1) rfl  k) ?_
  refine own_baload X0 hx hZ e0 H1 (j := p2) (v := (.int x0)) hb0 hv0 (g := (mkF m 2 #[.val (.ref a1), .val (.int p2), .val (.int (4 : Int32)), .unset, .unset, .unset] [(.int p2), (.ref a1)])) rfl rfl (hb hby d2_2) ?_
  refine own_go (fun t k => XS.bipush X0.here hx rfl (hb hby d2_3) k) ?_
  refine own_go (fun t k => XS.iloadN X0.here hx rfl (hb hby d2_5) rfl  k) ?_
  show own_Run p e below Φ (s₁.setTop (mkF m 6 #[.val (.ref a1), .val (.int p2), .val (.int (4 : Int32)), .unset, .unset, .unset] [(.int (4 : Int32)), (.int (127 : Int32)), (.int x0)]))
  refine own_go (fun t k => XS.ishr X0.here hx rfl (hb hby d2_6) rfl k) ?_
  show own_Run p e below Φ (s₁.setTop (mkF m 7 #[.val (.ref a1), .val (.int p2), .val (.int (4 : Int32)), .unset, .unset, .unset] [(.int ((127 : Int32) >>> ((4 : Int32) &&& 31))), (.int x0)]))
  rw [show ((127 : Int32) >>> ((4 : Int32) &&& 31)) = (7 : Int32) from by decide]
  show own_Run p e below Φ (s₁.setTop (mkF m 7 #[.val (.ref a1), .val (.int p2), .val (.int (4 : Int32)), .unset, .unset, .unset] [(.int (7 : Int32)), (.int x0)]))
  refine own_go (fun t k => XS.iand X0.here hx rfl (hb hby d2_7) rfl k) ?_
  refine own_go (fun t k => XS.istoreN X0.here hx rfl (hb hby d2_8) rfl (l' := #[.val (.ref a1), .val (.int p2), .val (.int (4 : Int32)), .val (.int (x0 &&& (7 : Int32))), .unset, .unset]) rfl k) ?_
  refine own_go (fun t k => XS.iconst X0.here hx rfl (hb hby d2_9) k) ?_
  refine own_go (fun t k => XS.istore X0.here hx rfl (hb hby d2_10) rfl (l' := #[.val (.ref a1), .val (.int p2), .val (.int (4 : Int32)), .val (.int (x0 &&& (7 : Int32))), .val (.int (1 : Int32)), .unset]) rfl k) ?_
  refine own_go (fun t k => XS.iload X0.here hx rfl (hb hby d2_12) rfl  k) ?_
  show own_Run p e below Φ (s₁.setTop (mkF m 14 #[.val (.ref a1), .val (.int p2), .val (.int (4 : Int32)), .val (.int (x0 &&& (7 : Int32))), .val (.int (1 : Int32)), .unset] [(.int (1 : Int32))]))
  refine own_go (fun t k => XS.iloadN X0.here hx rfl (hb hby d2_14) rfl  k) ?_
  refine own_go (fun t k => XS.icmpNo X0.here hx rfl (hb hby d2_15) rfl (tlt (by decide : (1 : Int32) < (4 : Int32))).2.1 k) ?_
  refine own_go (fun t k => XS.aloadN X0.here hx rfl (hb hby d2_18) rfl rfl  k) ?_
  refine own_go (fun t k => XS.iloadN X0.here hx rfl (hb hby d2_19) rfl  k) ?_
  refine own_go (fun t k => XS.iload X0.here hx rfl (hb hby d2_20) rfl  k) ?_
  show own_Run p e below Φ (s₁.setTop (mkF m 22 #[.val (.ref a1), .val (.int p2), .val (.int (4 : Int32)), .val (.int (x0 &&& (7 : Int32))), .val (.int (1 : Int32)), .unset] [(.int (1 : Int32)), (.int p2), (.ref a1)]))
  refine own_go (fun t k => XS.iadd X0.here hx rfl (hb hby d2_22) rfl k) ?_
  refine own_baload X0 hx hZ e0 H1 (j := (p2 + (1 : Int32))) (v := (.int x1)) hb1 hv1 (g := (mkF m 23 #[.val (.ref a1), .val (.int p2), .val (.int (4 : Int32)), .val (.int (x0 &&& (7 : Int32))), .val (.int (1 : Int32)), .unset] [(.int (p2 + (1 : Int32))), (.ref a1)])) rfl rfl (hb hby d2_23) ?_
  refine own_go (fun t k => XS.istore X0.here hx rfl (hb hby d2_24) rfl (l' := #[.val (.ref a1), .val (.int p2), .val (.int (4 : Int32)), .val (.int (x0 &&& (7 : Int32))), .val (.int (1 : Int32)), .val (.int x1)]) rfl k) ?_
  refine own_go (fun t k => XS.iload X0.here hx rfl (hb hby d2_26) rfl  k) ?_
  refine own_go (fun t k => XS.sipush X0.here hx rfl (hb hby d2_28) k) ?_
  show own_Run p e below Φ (s₁.setTop (mkF m 31 #[.val (.ref a1), .val (.int p2), .val (.int (4 : Int32)), .val (.int (x0 &&& (7 : Int32))), .val (.int (1 : Int32)), .val (.int x1)] [(.int (192 : Int32)), (.int x1)]))
  refine own_go (fun t k => XS.iand X0.here hx rfl (hb hby d2_31) rfl k) ?_
  refine own_go (fun t k => XS.sipush X0.here hx rfl (hb hby d2_32) k) ?_
  by_cases hc35 : (x1 &&& (192 : Int32)) = (128 : Int32)
  · refine own_go (fun t k => XS.icmpYes X0.here hx rfl (pc0 := 35) (pc' := 40) rfl (hb hby d2_35) rfl (teq hc35).1 (by decide) (by decide) k) ?_
    refine own_go (fun t k => XS.iloadN X0.here hx rfl (hb hby d2_40) rfl  k) ?_
    refine own_go (fun t k => XS.bipush X0.here hx rfl (hb hby d2_41) k) ?_
    show own_Run p e below Φ (s₁.setTop (mkF m 43 #[.val (.ref a1), .val (.int p2), .val (.int (4 : Int32)), .val (.int (x0 &&& (7 : Int32))), .val (.int (1 : Int32)), .val (.int x1)] [(.int (6 : Int32)), (.int (x0 &&& (7 : Int32)))]))
    refine own_go (fun t k => XS.ishl X0.here hx rfl (hb hby d2_43) rfl k) ?_
    refine own_go (fun t k => XS.iload X0.here hx rfl (hb hby d2_44) rfl  k) ?_
    refine own_go (fun t k => XS.bipush X0.here hx rfl (hb hby d2_46) k) ?_
    refine own_go (fun t k => XS.iand X0.here hx rfl (hb hby d2_48) rfl k) ?_
    refine own_go (fun t k => XS.ior X0.here hx rfl (hb hby d2_49) rfl k) ?_
    show own_Run p e below Φ (s₁.setTop (mkF m 50 #[.val (.ref a1), .val (.int p2), .val (.int (4 : Int32)), .val (.int (x0 &&& (7 : Int32))), .val (.int (1 : Int32)), .val (.int x1)] [(.int (((x0 &&& (7 : Int32)) <<< ((6 : Int32) &&& 31)) ||| (x1 &&& (63 : Int32))))]))
    refine own_go (fun t k => XS.istoreN X0.here hx rfl (hb hby d2_50) rfl (l' := #[.val (.ref a1), .val (.int p2), .val (.int (4 : Int32)), .val (.int (((x0 &&& (7 : Int32)) <<< ((6 : Int32) &&& 31)) ||| (x1 &&& (63 : Int32)))), .val (.int (1 : Int32)), .val (.int x1)]) rfl k) ?_
    refine own_go (fun t k => XS.iinc X0.here hx rfl (hb hby d2_51) rfl (l' := #[.val (.ref a1), .val (.int p2), .val (.int (4 : Int32)), .val (.int (((x0 &&& (7 : Int32)) <<< ((6 : Int32) &&& 31)) ||| (x1 &&& (63 : Int32)))), .val (.int ((1 : Int32) + (1 : Int32))), .val (.int x1)]) rfl k) ?_
    show own_Run p e below Φ (s₁.setTop (mkF m 54 #[.val (.ref a1), .val (.int p2), .val (.int (4 : Int32)), .val (.int (((x0 &&& (7 : Int32)) <<< ((6 : Int32) &&& 31)) ||| (x1 &&& (63 : Int32)))), .val (.int ((1 : Int32) + (1 : Int32))), .val (.int x1)] []))
    rw [show ((1 : Int32) + (1 : Int32)) = (2 : Int32) from by decide]
    show own_Run p e below Φ (s₁.setTop (mkF m 54 #[.val (.ref a1), .val (.int p2), .val (.int (4 : Int32)), .val (.int (((x0 &&& (7 : Int32)) <<< ((6 : Int32) &&& 31)) ||| (x1 &&& (63 : Int32)))), .val (.int (2 : Int32)), .val (.int x1)] []))
    refine own_go (fun t k => XS.goto X0.here hx rfl (pc0 := 54) (pc' := 12) rfl (hb hby d2_54) (by decide) (by decide) k) ?_
    refine own_go (fun t k => XS.iload X0.here hx rfl (hb hby d2_12) rfl  k) ?_
    refine own_go (fun t k => XS.iloadN X0.here hx rfl (hb hby d2_14) rfl  k) ?_
    refine own_go (fun t k => XS.icmpNo X0.here hx rfl (hb hby d2_15) rfl (tlt (by decide : (2 : Int32) < (4 : Int32))).2.1 k) ?_
    refine own_go (fun t k => XS.aloadN X0.here hx rfl (hb hby d2_18) rfl rfl  k) ?_
    show own_Run p e below Φ (s₁.setTop (mkF m 19 #[.val (.ref a1), .val (.int p2), .val (.int (4 : Int32)), .val (.int (((x0 &&& (7 : Int32)) <<< ((6 : Int32) &&& 31)) ||| (x1 &&& (63 : Int32)))), .val (.int (2 : Int32)), .val (.int x1)] [(.ref a1)]))
    refine own_go (fun t k => XS.iloadN X0.here hx rfl (hb hby d2_19) rfl  k) ?_
    refine own_go (fun t k => XS.iload X0.here hx rfl (hb hby d2_20) rfl  k) ?_
    refine own_go (fun t k => XS.iadd X0.here hx rfl (hb hby d2_22) rfl k) ?_
    refine own_baload X0 hx hZ e0 H1 (j := (p2 + (2 : Int32))) (v := (.int x2)) hb2 hv2 (g := (mkF m 23 #[.val (.ref a1), .val (.int p2), .val (.int (4 : Int32)), .val (.int (((x0 &&& (7 : Int32)) <<< ((6 : Int32) &&& 31)) ||| (x1 &&& (63 : Int32)))), .val (.int (2 : Int32)), .val (.int x1)] [(.int (p2 + (2 : Int32))), (.ref a1)])) rfl rfl (hb hby d2_23) ?_
    refine own_go (fun t k => XS.istore X0.here hx rfl (hb hby d2_24) rfl (l' := #[.val (.ref a1), .val (.int p2), .val (.int (4 : Int32)), .val (.int (((x0 &&& (7 : Int32)) <<< ((6 : Int32) &&& 31)) ||| (x1 &&& (63 : Int32)))), .val (.int (2 : Int32)), .val (.int x2)]) rfl k) ?_
    show own_Run p e below Φ (s₁.setTop (mkF m 26 #[.val (.ref a1), .val (.int p2), .val (.int (4 : Int32)), .val (.int (((x0 &&& (7 : Int32)) <<< ((6 : Int32) &&& 31)) ||| (x1 &&& (63 : Int32)))), .val (.int (2 : Int32)), .val (.int x2)] []))
    refine own_go (fun t k => XS.iload X0.here hx rfl (hb hby d2_26) rfl  k) ?_
    refine own_go (fun t k => XS.sipush X0.here hx rfl (hb hby d2_28) k) ?_
    refine own_go (fun t k => XS.iand X0.here hx rfl (hb hby d2_31) rfl k) ?_
    refine own_go (fun t k => XS.sipush X0.here hx rfl (hb hby d2_32) k) ?_
    by_cases hc35_2 : (x2 &&& (192 : Int32)) = (128 : Int32)
    · refine own_go (fun t k => XS.icmpYes X0.here hx rfl (pc0 := 35) (pc' := 40) rfl (hb hby d2_35) rfl (teq hc35_2).1 (by decide) (by decide) k) ?_
      show own_Run p e below Φ (s₁.setTop (mkF m 40 #[.val (.ref a1), .val (.int p2), .val (.int (4 : Int32)), .val (.int (((x0 &&& (7 : Int32)) <<< ((6 : Int32) &&& 31)) ||| (x1 &&& (63 : Int32)))), .val (.int (2 : Int32)), .val (.int x2)] []))
      refine own_go (fun t k => XS.iloadN X0.here hx rfl (hb hby d2_40) rfl  k) ?_
      refine own_go (fun t k => XS.bipush X0.here hx rfl (hb hby d2_41) k) ?_
      refine own_go (fun t k => XS.ishl X0.here hx rfl (hb hby d2_43) rfl k) ?_
      refine own_go (fun t k => XS.iload X0.here hx rfl (hb hby d2_44) rfl  k) ?_
      refine own_go (fun t k => XS.bipush X0.here hx rfl (hb hby d2_46) k) ?_
      show own_Run p e below Φ (s₁.setTop (mkF m 48 #[.val (.ref a1), .val (.int p2), .val (.int (4 : Int32)), .val (.int (((x0 &&& (7 : Int32)) <<< ((6 : Int32) &&& 31)) ||| (x1 &&& (63 : Int32)))), .val (.int (2 : Int32)), .val (.int x2)] [(.int (63 : Int32)), (.int x2), (.int ((((x0 &&& (7 : Int32)) <<< ((6 : Int32) &&& 31)) ||| (x1 &&& (63 : Int32))) <<< ((6 : Int32) &&& 31)))]))
      refine own_go (fun t k => XS.iand X0.here hx rfl (hb hby d2_48) rfl k) ?_
      refine own_go (fun t k => XS.ior X0.here hx rfl (hb hby d2_49) rfl k) ?_
      refine own_go (fun t k => XS.istoreN X0.here hx rfl (hb hby d2_50) rfl (l' := #[.val (.ref a1), .val (.int p2), .val (.int (4 : Int32)), .val (.int (((((x0 &&& (7 : Int32)) <<< ((6 : Int32) &&& 31)) ||| (x1 &&& (63 : Int32))) <<< ((6 : Int32) &&& 31)) ||| (x2 &&& (63 : Int32)))), .val (.int (2 : Int32)), .val (.int x2)]) rfl k) ?_
      refine own_go (fun t k => XS.iinc X0.here hx rfl (hb hby d2_51) rfl (l' := #[.val (.ref a1), .val (.int p2), .val (.int (4 : Int32)), .val (.int (((((x0 &&& (7 : Int32)) <<< ((6 : Int32) &&& 31)) ||| (x1 &&& (63 : Int32))) <<< ((6 : Int32) &&& 31)) ||| (x2 &&& (63 : Int32)))), .val (.int ((2 : Int32) + (1 : Int32))), .val (.int x2)]) rfl k) ?_
      show own_Run p e below Φ (s₁.setTop (mkF m 54 #[.val (.ref a1), .val (.int p2), .val (.int (4 : Int32)), .val (.int (((((x0 &&& (7 : Int32)) <<< ((6 : Int32) &&& 31)) ||| (x1 &&& (63 : Int32))) <<< ((6 : Int32) &&& 31)) ||| (x2 &&& (63 : Int32)))), .val (.int ((2 : Int32) + (1 : Int32))), .val (.int x2)] []))
      rw [show ((2 : Int32) + (1 : Int32)) = (3 : Int32) from by decide]
      show own_Run p e below Φ (s₁.setTop (mkF m 54 #[.val (.ref a1), .val (.int p2), .val (.int (4 : Int32)), .val (.int (((((x0 &&& (7 : Int32)) <<< ((6 : Int32) &&& 31)) ||| (x1 &&& (63 : Int32))) <<< ((6 : Int32) &&& 31)) ||| (x2 &&& (63 : Int32)))), .val (.int (3 : Int32)), .val (.int x2)] []))
      refine own_go (fun t k => XS.goto X0.here hx rfl (pc0 := 54) (pc' := 12) rfl (hb hby d2_54) (by decide) (by decide) k) ?_
      refine own_go (fun t k => XS.iload X0.here hx rfl (hb hby d2_12) rfl  k) ?_
      refine own_go (fun t k => XS.iloadN X0.here hx rfl (hb hby d2_14) rfl  k) ?_
      refine own_go (fun t k => XS.icmpNo X0.here hx rfl (hb hby d2_15) rfl (tlt (by decide : (3 : Int32) < (4 : Int32))).2.1 k) ?_
      refine own_go (fun t k => XS.aloadN X0.here hx rfl (hb hby d2_18) rfl rfl  k) ?_
      show own_Run p e below Φ (s₁.setTop (mkF m 19 #[.val (.ref a1), .val (.int p2), .val (.int (4 : Int32)), .val (.int (((((x0 &&& (7 : Int32)) <<< ((6 : Int32) &&& 31)) ||| (x1 &&& (63 : Int32))) <<< ((6 : Int32) &&& 31)) ||| (x2 &&& (63 : Int32)))), .val (.int (3 : Int32)), .val (.int x2)] [(.ref a1)]))
      refine own_go (fun t k => XS.iloadN X0.here hx rfl (hb hby d2_19) rfl  k) ?_
      refine own_go (fun t k => XS.iload X0.here hx rfl (hb hby d2_20) rfl  k) ?_
      refine own_go (fun t k => XS.iadd X0.here hx rfl (hb hby d2_22) rfl k) ?_
      refine own_baload X0 hx hZ e0 H1 (j := (p2 + (3 : Int32))) (v := (.int x3)) hb3 hv3 (g := (mkF m 23 #[.val (.ref a1), .val (.int p2), .val (.int (4 : Int32)), .val (.int (((((x0 &&& (7 : Int32)) <<< ((6 : Int32) &&& 31)) ||| (x1 &&& (63 : Int32))) <<< ((6 : Int32) &&& 31)) ||| (x2 &&& (63 : Int32)))), .val (.int (3 : Int32)), .val (.int x2)] [(.int (p2 + (3 : Int32))), (.ref a1)])) rfl rfl (hb hby d2_23) ?_
      refine own_go (fun t k => XS.istore X0.here hx rfl (hb hby d2_24) rfl (l' := #[.val (.ref a1), .val (.int p2), .val (.int (4 : Int32)), .val (.int (((((x0 &&& (7 : Int32)) <<< ((6 : Int32) &&& 31)) ||| (x1 &&& (63 : Int32))) <<< ((6 : Int32) &&& 31)) ||| (x2 &&& (63 : Int32)))), .val (.int (3 : Int32)), .val (.int x3)]) rfl k) ?_
      show own_Run p e below Φ (s₁.setTop (mkF m 26 #[.val (.ref a1), .val (.int p2), .val (.int (4 : Int32)), .val (.int (((((x0 &&& (7 : Int32)) <<< ((6 : Int32) &&& 31)) ||| (x1 &&& (63 : Int32))) <<< ((6 : Int32) &&& 31)) ||| (x2 &&& (63 : Int32)))), .val (.int (3 : Int32)), .val (.int x3)] []))
      refine own_go (fun t k => XS.iload X0.here hx rfl (hb hby d2_26) rfl  k) ?_
      refine own_go (fun t k => XS.sipush X0.here hx rfl (hb hby d2_28) k) ?_
      refine own_go (fun t k => XS.iand X0.here hx rfl (hb hby d2_31) rfl k) ?_
      refine own_go (fun t k => XS.sipush X0.here hx rfl (hb hby d2_32) k) ?_
      by_cases hc35_3 : (x3 &&& (192 : Int32)) = (128 : Int32)
      · refine own_go (fun t k => XS.icmpYes X0.here hx rfl (pc0 := 35) (pc' := 40) rfl (hb hby d2_35) rfl (teq hc35_3).1 (by decide) (by decide) k) ?_
        show own_Run p e below Φ (s₁.setTop (mkF m 40 #[.val (.ref a1), .val (.int p2), .val (.int (4 : Int32)), .val (.int (((((x0 &&& (7 : Int32)) <<< ((6 : Int32) &&& 31)) ||| (x1 &&& (63 : Int32))) <<< ((6 : Int32) &&& 31)) ||| (x2 &&& (63 : Int32)))), .val (.int (3 : Int32)), .val (.int x3)] []))
        refine own_go (fun t k => XS.iloadN X0.here hx rfl (hb hby d2_40) rfl  k) ?_
        refine own_go (fun t k => XS.bipush X0.here hx rfl (hb hby d2_41) k) ?_
        refine own_go (fun t k => XS.ishl X0.here hx rfl (hb hby d2_43) rfl k) ?_
        refine own_go (fun t k => XS.iload X0.here hx rfl (hb hby d2_44) rfl  k) ?_
        refine own_go (fun t k => XS.bipush X0.here hx rfl (hb hby d2_46) k) ?_
        show own_Run p e below Φ (s₁.setTop (mkF m 48 #[.val (.ref a1), .val (.int p2), .val (.int (4 : Int32)), .val (.int (((((x0 &&& (7 : Int32)) <<< ((6 : Int32) &&& 31)) ||| (x1 &&& (63 : Int32))) <<< ((6 : Int32) &&& 31)) ||| (x2 &&& (63 : Int32)))), .val (.int (3 : Int32)), .val (.int x3)] [(.int (63 : Int32)), (.int x3), (.int ((((((x0 &&& (7 : Int32)) <<< ((6 : Int32) &&& 31)) ||| (x1 &&& (63 : Int32))) <<< ((6 : Int32) &&& 31)) ||| (x2 &&& (63 : Int32))) <<< ((6 : Int32) &&& 31)))]))
        refine own_go (fun t k => XS.iand X0.here hx rfl (hb hby d2_48) rfl k) ?_
        refine own_go (fun t k => XS.ior X0.here hx rfl (hb hby d2_49) rfl k) ?_
        refine own_go (fun t k => XS.istoreN X0.here hx rfl (hb hby d2_50) rfl (l' := #[.val (.ref a1), .val (.int p2), .val (.int (4 : Int32)), .val (.int (((((((x0 &&& (7 : Int32)) <<< ((6 : Int32) &&& 31)) ||| (x1 &&& (63 : Int32))) <<< ((6 : Int32) &&& 31)) ||| (x2 &&& (63 : Int32))) <<< ((6 : Int32) &&& 31)) ||| (x3 &&& (63 : Int32)))), .val (.int (3 : Int32)), .val (.int x3)]) rfl k) ?_
        refine own_go (fun t k => XS.iinc X0.here hx rfl (hb hby d2_51) rfl (l' := #[.val (.ref a1), .val (.int p2), .val (.int (4 : Int32)), .val (.int (((((((x0 &&& (7 : Int32)) <<< ((6 : Int32) &&& 31)) ||| (x1 &&& (63 : Int32))) <<< ((6 : Int32) &&& 31)) ||| (x2 &&& (63 : Int32))) <<< ((6 : Int32) &&& 31)) ||| (x3 &&& (63 : Int32)))), .val (.int ((3 : Int32) + (1 : Int32))), .val (.int x3)]) rfl k) ?_
        show own_Run p e below Φ (s₁.setTop (mkF m 54 #[.val (.ref a1), .val (.int p2), .val (.int (4 : Int32)), .val (.int (((((((x0 &&& (7 : Int32)) <<< ((6 : Int32) &&& 31)) ||| (x1 &&& (63 : Int32))) <<< ((6 : Int32) &&& 31)) ||| (x2 &&& (63 : Int32))) <<< ((6 : Int32) &&& 31)) ||| (x3 &&& (63 : Int32)))), .val (.int ((3 : Int32) + (1 : Int32))), .val (.int x3)] []))
        rw [show ((3 : Int32) + (1 : Int32)) = (4 : Int32) from by decide]
        show own_Run p e below Φ (s₁.setTop (mkF m 54 #[.val (.ref a1), .val (.int p2), .val (.int (4 : Int32)), .val (.int (((((((x0 &&& (7 : Int32)) <<< ((6 : Int32) &&& 31)) ||| (x1 &&& (63 : Int32))) <<< ((6 : Int32) &&& 31)) ||| (x2 &&& (63 : Int32))) <<< ((6 : Int32) &&& 31)) ||| (x3 &&& (63 : Int32)))), .val (.int (4 : Int32)), .val (.int x3)] []))
        refine own_go (fun t k => XS.goto X0.here hx rfl (pc0 := 54) (pc' := 12) rfl (hb hby d2_54) (by decide) (by decide) k) ?_
        refine own_go (fun t k => XS.iload X0.here hx rfl (hb hby d2_12) rfl  k) ?_
        refine own_go (fun t k => XS.iloadN X0.here hx rfl (hb hby d2_14) rfl  k) ?_
        refine own_go (fun t k => XS.icmpYes X0.here hx rfl (pc0 := 15) (pc' := 57) rfl (hb hby d2_15) rfl (flt (by decide : ¬ ((4 : Int32) < (4 : Int32)))).2.1 (by decide) (by decide) k) ?_
        refine own_go (fun t k => XS.iloadN X0.here hx rfl (hb hby d2_57) rfl  k) ?_
        show own_Run p e below Φ (s₁.setTop (mkF m 58 #[.val (.ref a1), .val (.int p2), .val (.int (4 : Int32)), .val (.int (((((((x0 &&& (7 : Int32)) <<< ((6 : Int32) &&& 31)) ||| (x1 &&& (63 : Int32))) <<< ((6 : Int32) &&& 31)) ||| (x2 &&& (63 : Int32))) <<< ((6 : Int32) &&& 31)) ||| (x3 &&& (63 : Int32)))), .val (.int (4 : Int32)), .val (.int x3)] [(.int (((((((x0 &&& (7 : Int32)) <<< ((6 : Int32) &&& 31)) ||| (x1 &&& (63 : Int32))) <<< ((6 : Int32) &&& 31)) ||| (x2 &&& (63 : Int32))) <<< ((6 : Int32) &&& 31)) ||| (x3 &&& (63 : Int32))))]))
        obtain ⟨T1, X1, e1, st1⟩ := getS2 X0 hx hZ hown (host := "") (Or.inl (hw _ (List.mem_of_getElem? (i := 10) rfl))) Via.refl e0 (H3.ext H2.2) (g := (mkF m 58 #[.val (.ref a1), .val (.int p2), .val (.int (4 : Int32)), .val (.int (((((((x0 &&& (7 : Int32)) <<< ((6 : Int32) &&& 31)) ||| (x1 &&& (63 : Int32))) <<< ((6 : Int32) &&& 31)) ||| (x2 &&& (63 : Int32))) <<< ((6 : Int32) &&& 31)) ||| (x3 &&& (63 : Int32)))), .val (.int (4 : Int32)), .val (.int x3)] [(.int (((((((x0 &&& (7 : Int32)) <<< ((6 : Int32) &&& 31)) ||| (x1 &&& (63 : Int32))) <<< ((6 : Int32) &&& 31)) ||| (x2 &&& (63 : Int32))) <<< ((6 : Int32) &&& 31)) ||| (x3 &&& (63 : Int32))))])) rfl (hb hby d2_58)
        refine own_go st1 ?_
        refine own_go (fun t k => XS.iloadN X1.here hx rfl (hb hby d2_61) rfl  k) ?_
        refine own_iaload X1 hx hZ e1 H4 (j := (4 : Int32)) (v := (.int (65536 : Int32))) ⟨by decide, by decide⟩ rfl (g := (mkF m 62 #[.val (.ref a1), .val (.int p2), .val (.int (4 : Int32)), .val (.int (((((((x0 &&& (7 : Int32)) <<< ((6 : Int32) &&& 31)) ||| (x1 &&& (63 : Int32))) <<< ((6 : Int32) &&& 31)) ||| (x2 &&& (63 : Int32))) <<< ((6 : Int32) &&& 31)) ||| (x3 &&& (63 : Int32)))), .val (.int (4 : Int32)), .val (.int x3)] [(.int (4 : Int32)), (.ref w1), (.int (((((((x0 &&& (7 : Int32)) <<< ((6 : Int32) &&& 31)) ||| (x1 &&& (63 : Int32))) <<< ((6 : Int32) &&& 31)) ||| (x2 &&& (63 : Int32))) <<< ((6 : Int32) &&& 31)) ||| (x3 &&& (63 : Int32))))])) rfl rfl (hb hby d2_62) ?_
        by_cases hc63 : (((((((x0 &&& (7 : Int32)) <<< ((6 : Int32) &&& 31)) ||| (x1 &&& (63 : Int32))) <<< ((6 : Int32) &&& 31)) ||| (x2 &&& (63 : Int32))) <<< ((6 : Int32) &&& 31)) ||| (x3 &&& (63 : Int32))) < (65536 : Int32)
        · refine own_go (fun t k => XS.icmpYes X1.here hx rfl (pc0 := 63) (pc' := 84) rfl (hb hby d2_63) rfl (tlt hc63).1 (by decide) (by decide) k) ?_
          refine own_go (fun t k => XS.iconst X1.here hx rfl (hb hby d2_84) k) ?_
          show own_Run p e below Φ (T1.setTop (mkF m 85 #[.val (.ref a1), .val (.int p2), .val (.int (4 : Int32)), .val (.int (((((((x0 &&& (7 : Int32)) <<< ((6 : Int32) &&& 31)) ||| (x1 &&& (63 : Int32))) <<< ((6 : Int32) &&& 31)) ||| (x2 &&& (63 : Int32))) <<< ((6 : Int32) &&& 31)) ||| (x3 &&& (63 : Int32)))), .val (.int (4 : Int32)), .val (.int x3)] [(.int (-1 : Int32))]))
          subst hΦ
          exact own_retI X1 hx Bd.returns hlk (hb hby d2_85) e1 ⟨(by simp only [own_dec4, own_lst, own_c4, if_true, if_false, hc35, hc35_2, hc35_3, hc63] <;> rfl), N0, rfl⟩ (by decide) (by decide)
        · refine own_go (fun t k => XS.icmpNo X1.here hx rfl (hb hby d2_63) rfl (flt hc63).1 k) ?_
          refine own_go (fun t k => XS.iloadN X1.here hx rfl (hb hby d2_66) rfl  k) ?_
          refine own_go (X1.ldcInt hx hown (mvT hZ (hw _ (List.mem_of_getElem? (i := 12) rfl))) (g := (mkF m 67 #[.val (.ref a1), .val (.int p2), .val (.int (4 : Int32)), .val (.int (((((((x0 &&& (7 : Int32)) <<< ((6 : Int32) &&& 31)) ||| (x1 &&& (63 : Int32))) <<< ((6 : Int32) &&& 31)) ||| (x2 &&& (63 : Int32))) <<< ((6 : Int32) &&& 31)) ||| (x3 &&& (63 : Int32)))), .val (.int (4 : Int32)), .val (.int x3)] [(.int (((((((x0 &&& (7 : Int32)) <<< ((6 : Int32) &&& 31)) ||| (x1 &&& (63 : Int32))) <<< ((6 : Int32) &&& 31)) ||| (x2 &&& (63 : Int32))) <<< ((6 : Int32) &&& 31)) ||| (x3 &&& (63 : Int32))))])) rfl (hb hby d2_67)) ?_
          by_cases hc69 : (((((((x0 &&& (7 : Int32)) <<< ((6 : Int32) &&& 31)) ||| (x1 &&& (63 : Int32))) <<< ((6 : Int32) &&& 31)) ||| (x2 &&& (63 : Int32))) <<< ((6 : Int32) &&& 31)) ||| (x3 &&& (63 : Int32))) < (55296 : Int32)
          · refine own_go (fun t k => XS.icmpYes X1.here hx rfl (pc0 := 69) (pc' := 78) rfl (hb hby d2_69) rfl (tlt hc69).1 (by decide) (by decide) k) ?_
            refine own_go (fun t k => XS.iloadN X1.here hx rfl (hb hby d2_78) rfl  k) ?_
            show own_Run p e below Φ (T1.setTop (mkF m 79 #[.val (.ref a1), .val (.int p2), .val (.int (4 : Int32)), .val (.int (((((((x0 &&& (7 : Int32)) <<< ((6 : Int32) &&& 31)) ||| (x1 &&& (63 : Int32))) <<< ((6 : Int32) &&& 31)) ||| (x2 &&& (63 : Int32))) <<< ((6 : Int32) &&& 31)) ||| (x3 &&& (63 : Int32)))), .val (.int (4 : Int32)), .val (.int x3)] [(.int (((((((x0 &&& (7 : Int32)) <<< ((6 : Int32) &&& 31)) ||| (x1 &&& (63 : Int32))) <<< ((6 : Int32) &&& 31)) ||| (x2 &&& (63 : Int32))) <<< ((6 : Int32) &&& 31)) ||| (x3 &&& (63 : Int32))))]))
            refine own_go (X1.ldcInt hx hown (mvT hZ (hw _ (List.mem_of_getElem? (i := 13) rfl))) (g := (mkF m 79 #[.val (.ref a1), .val (.int p2), .val (.int (4 : Int32)), .val (.int (((((((x0 &&& (7 : Int32)) <<< ((6 : Int32) &&& 31)) ||| (x1 &&& (63 : Int32))) <<< ((6 : Int32) &&& 31)) ||| (x2 &&& (63 : Int32))) <<< ((6 : Int32) &&& 31)) ||| (x3 &&& (63 : Int32)))), .val (.int (4 : Int32)), .val (.int x3)] [(.int (((((((x0 &&& (7 : Int32)) <<< ((6 : Int32) &&& 31)) ||| (x1 &&& (63 : Int32))) <<< ((6 : Int32) &&& 31)) ||| (x2 &&& (63 : Int32))) <<< ((6 : Int32) &&& 31)) ||| (x3 &&& (63 : Int32))))])) rfl (hb hby d2_79)) ?_
            by_cases hc81 : (1114111 : Int32) < (((((((x0 &&& (7 : Int32)) <<< ((6 : Int32) &&& 31)) ||| (x1 &&& (63 : Int32))) <<< ((6 : Int32) &&& 31)) ||| (x2 &&& (63 : Int32))) <<< ((6 : Int32) &&& 31)) ||| (x3 &&& (63 : Int32)))
            · refine own_go (fun t k => XS.icmpNo X1.here hx rfl (hb hby d2_81) rfl (tlt hc81).2.2.2 k) ?_
              refine own_go (fun t k => XS.iconst X1.here hx rfl (hb hby d2_84) k) ?_
              subst hΦ
              exact own_retI X1 hx Bd.returns hlk (hb hby d2_85) e1 ⟨(by simp only [own_dec4, own_lst, own_c4, if_true, if_false, hc35, hc35_2, hc35_3, hc63, hc69, hc81] <;> rfl), N0, rfl⟩ (by decide) (by decide)
            · refine own_go (fun t k => XS.icmpYes X1.here hx rfl (pc0 := 81) (pc' := 86) rfl (hb hby d2_81) rfl (flt hc81).2.2.2 (by decide) (by decide) k) ?_
              refine own_go (fun t k => XS.iloadN X1.here hx rfl (hb hby d2_86) rfl  k) ?_
              show own_Run p e below Φ (T1.setTop (mkF m 87 #[.val (.ref a1), .val (.int p2), .val (.int (4 : Int32)), .val (.int (((((((x0 &&& (7 : Int32)) <<< ((6 : Int32) &&& 31)) ||| (x1 &&& (63 : Int32))) <<< ((6 : Int32) &&& 31)) ||| (x2 &&& (63 : Int32))) <<< ((6 : Int32) &&& 31)) ||| (x3 &&& (63 : Int32)))), .val (.int (4 : Int32)), .val (.int x3)] [(.int (((((((x0 &&& (7 : Int32)) <<< ((6 : Int32) &&& 31)) ||| (x1 &&& (63 : Int32))) <<< ((6 : Int32) &&& 31)) ||| (x2 &&& (63 : Int32))) <<< ((6 : Int32) &&& 31)) ||| (x3 &&& (63 : Int32))))]))
              subst hΦ
              exact own_retI X1 hx Bd.returns hlk (hb hby d2_87) e1 ⟨(by simp only [own_dec4, own_lst, own_c4, if_true, if_false, hc35, hc35_2, hc35_3, hc63, hc69, hc81] <;> rfl), N0, rfl⟩ (by decide) (by decide)
          · refine own_go (fun t k => XS.icmpNo X1.here hx rfl (hb hby d2_69) rfl (flt hc69).1 k) ?_
            refine own_go (fun t k => XS.iloadN X1.here hx rfl (hb hby d2_72) rfl  k) ?_
            refine own_go (X1.ldcInt hx hown (mvT hZ (hw _ (List.mem_of_getElem? (i := 14) rfl))) (g := (mkF m 73 #[.val (.ref a1), .val (.int p2), .val (.int (4 : Int32)), .val (.int (((((((x0 &&& (7 : Int32)) <<< ((6 : Int32) &&& 31)) ||| (x1 &&& (63 : Int32))) <<< ((6 : Int32) &&& 31)) ||| (x2 &&& (63 : Int32))) <<< ((6 : Int32) &&& 31)) ||| (x3 &&& (63 : Int32)))), .val (.int (4 : Int32)), .val (.int x3)] [(.int (((((((x0 &&& (7 : Int32)) <<< ((6 : Int32) &&& 31)) ||| (x1 &&& (63 : Int32))) <<< ((6 : Int32) &&& 31)) ||| (x2 &&& (63 : Int32))) <<< ((6 : Int32) &&& 31)) ||| (x3 &&& (63 : Int32))))])) rfl (hb hby d2_73)) ?_
            by_cases hc75 : (57343 : Int32) < (((((((x0 &&& (7 : Int32)) <<< ((6 : Int32) &&& 31)) ||| (x1 &&& (63 : Int32))) <<< ((6 : Int32) &&& 31)) ||| (x2 &&& (63 : Int32))) <<< ((6 : Int32) &&& 31)) ||| (x3 &&& (63 : Int32)))
            · refine own_go (fun t k => XS.icmpNo X1.here hx rfl (hb hby d2_75) rfl (tlt hc75).2.2.2 k) ?_
              refine own_go (fun t k => XS.iloadN X1.here hx rfl (hb hby d2_78) rfl  k) ?_
              show own_Run p e below Φ (T1.setTop (mkF m 79 #[.val (.ref a1), .val (.int p2), .val (.int (4 : Int32)), .val (.int (((((((x0 &&& (7 : Int32)) <<< ((6 : Int32) &&& 31)) ||| (x1 &&& (63 : Int32))) <<< ((6 : Int32) &&& 31)) ||| (x2 &&& (63 : Int32))) <<< ((6 : Int32) &&& 31)) ||| (x3 &&& (63 : Int32)))), .val (.int (4 : Int32)), .val (.int x3)] [(.int (((((((x0 &&& (7 : Int32)) <<< ((6 : Int32) &&& 31)) ||| (x1 &&& (63 : Int32))) <<< ((6 : Int32) &&& 31)) ||| (x2 &&& (63 : Int32))) <<< ((6 : Int32) &&& 31)) ||| (x3 &&& (63 : Int32))))]))
              refine own_go (X1.ldcInt hx hown (mvT hZ (hw _ (List.mem_of_getElem? (i := 13) rfl))) (g := (mkF m 79 #[.val (.ref a1), .val (.int p2), .val (.int (4 : Int32)), .val (.int (((((((x0 &&& (7 : Int32)) <<< ((6 : Int32) &&& 31)) ||| (x1 &&& (63 : Int32))) <<< ((6 : Int32) &&& 31)) ||| (x2 &&& (63 : Int32))) <<< ((6 : Int32) &&& 31)) ||| (x3 &&& (63 : Int32)))), .val (.int (4 : Int32)), .val (.int x3)] [(.int (((((((x0 &&& (7 : Int32)) <<< ((6 : Int32) &&& 31)) ||| (x1 &&& (63 : Int32))) <<< ((6 : Int32) &&& 31)) ||| (x2 &&& (63 : Int32))) <<< ((6 : Int32) &&& 31)) ||| (x3 &&& (63 : Int32))))])) rfl (hb hby d2_79)) ?_
              by_cases hc81 : (1114111 : Int32) < (((((((x0 &&& (7 : Int32)) <<< ((6 : Int32) &&& 31)) ||| (x1 &&& (63 : Int32))) <<< ((6 : Int32) &&& 31)) ||| (x2 &&& (63 : Int32))) <<< ((6 : Int32) &&& 31)) ||| (x3 &&& (63 : Int32)))
              · refine own_go (fun t k => XS.icmpNo X1.here hx rfl (hb hby d2_81) rfl (tlt hc81).2.2.2 k) ?_
                refine own_go (fun t k => XS.iconst X1.here hx rfl (hb hby d2_84) k) ?_
                subst hΦ
                exact own_retI X1 hx Bd.returns hlk (hb hby d2_85) e1 ⟨(by simp only [own_dec4, own_lst, own_c4, if_true, if_false, hc35, hc35_2, hc35_3, hc63, hc69, hc75, hc81] <;> rfl), N0, rfl⟩ (by decide) (by decide)
              · refine own_go (fun t k => XS.icmpYes X1.here hx rfl (pc0 := 81) (pc' := 86) rfl (hb hby d2_81) rfl (flt hc81).2.2.2 (by decide) (by decide) k) ?_
                refine own_go (fun t k => XS.iloadN X1.here hx rfl (hb hby d2_86) rfl  k) ?_
                show own_Run p e below Φ (T1.setTop (mkF m 87 #[.val (.ref a1), .val (.int p2), .val (.int (4 : Int32)), .val (.int (((((((x0 &&& (7 : Int32)) <<< ((6 : Int32) &&& 31)) ||| (x1 &&& (63 : Int32))) <<< ((6 : Int32) &&& 31)) ||| (x2 &&& (63 : Int32))) <<< ((6 : Int32) &&& 31)) ||| (x3 &&& (63 : Int32)))), .val (.int (4 : Int32)), .val (.int x3)] [(.int (((((((x0 &&& (7 : Int32)) <<< ((6 : Int32) &&& 31)) ||| (x1 &&& (63 : Int32))) <<< ((6 : Int32) &&& 31)) ||| (x2 &&& (63 : Int32))) <<< ((6 : Int32) &&& 31)) ||| (x3 &&& (63 : Int32))))]))
                subst hΦ
                exact own_retI X1 hx Bd.returns hlk (hb hby d2_87) e1 ⟨(by simp only [own_dec4, own_lst, own_c4, if_true, if_false, hc35, hc35_2, hc35_3, hc63, hc69, hc75, hc81] <;> rfl), N0, rfl⟩ (by decide) (by decide)
            · refine own_go (fun t k => XS.icmpYes X1.here hx rfl (pc0 := 75) (pc' := 84) rfl (hb hby d2_75) rfl (flt hc75).2.2.2 (by decide) (by decide) k) ?_
              refine own_go (fun t k => XS.iconst X1.here hx rfl (hb hby d2_84) k) ?_
              subst hΦ
              exact own_retI X1 hx Bd.returns hlk (hb hby d2_85) e1 ⟨(by simp only [own_dec4, own_lst, own_c4, if_true, if_false, hc35, hc35_2, hc35_3, hc63, hc69, hc75] <;> rfl), N0, rfl⟩ (by decide) (by decide)
      · refine own_go (fun t k => XS.icmpNo X0.here hx rfl (hb hby d2_35) rfl (feq hc35_3).1 k) ?_
        refine own_go (fun t k => XS.iconst X0.here hx rfl (hb hby d2_38) k) ?_
        subst hΦ
        exact own_retI X0 hx Bd.returns hlk (hb hby d2_39) e0 ⟨(by simp only [own_dec4, own_lst, own_c4, if_true, if_false, hc35, hc35_2, hc35_3] <;> rfl), N0, rfl⟩ (by decide) (by decide)
    · refine own_go (fun t k => XS.icmpNo X0.here hx rfl (hb hby d2_35) rfl (feq hc35_2).1 k) ?_
      show own_Run p e below Φ (s₁.setTop (mkF m 38 #[.val (.ref a1), .val (.int p2), .val (.int (4 : Int32)), .val (.int (((x0 &&& (7 : Int32)) <<< ((6 : Int32) &&& 31)) ||| (x1 &&& (63 : Int32)))), .val (.int (2 : Int32)), .val (.int x2)] []))
      refine own_go (fun t k => XS.iconst X0.here hx rfl (hb hby d2_38) k) ?_
      subst hΦ
      exact own_retI X0 hx Bd.returns hlk (hb hby d2_39) e0 ⟨(by simp only [own_dec4, own_lst, own_c4, if_true, if_false, hc35, hc35_2] <;> rfl), N0, rfl⟩ (by decide) (by decide)
  · refine own_go (fun t k => XS.icmpNo X0.here hx rfl (hb hby d2_35) rfl (feq hc35).1 k) ?_
    refine own_go (fun t k => XS.iconst X0.here hx rfl (hb hby d2_38) k) ?_
    subst hΦ
    exact own_retI X0 hx Bd.returns hlk (hb hby d2_39) e0 ⟨(by simp only [own_dec4, own_lst, own_c4, if_true, if_false, hc35] <;> rfl), N0, rfl⟩ (by decide) (by decide)
theorem own_st15 {z0 z1 z2 z3 z4 z5 z6 z7 z8 z9 z10 z11 z12 z13 z14 : Value} {s15 s16 : Slot} {v : Int32} (h : One s15) : storeLocals #[.val z0, .val z1, .val z2, .val z3, .val z4, .val z5, .val z6, .val z7, .val z8, .val z9, .val z10, .val z11, .val z12, .val z13, .val z14, s15, s16] 15 (.int v) = some #[.val z0, .val z1, .val z2, .val z3, .val z4, .val z5, .val z6, .val z7, .val z8, .val z9, .val z10, .val z11, .val z12, .val z13, .val z14, .val (.int v), s16] := by
  rcases h with rfl | ⟨w, rfl, hw⟩
  · rfl
  · cases w <;> first | rfl | (simp [Value.category] at hw)
theorem pd_0 : parseMethodDescriptor "(III)Z" = some ⟨[.int, .int, .int], some .boolean⟩ := by decide +kernel
theorem pd_1 : parseMethodDescriptor "([BII)I" = some ⟨[(.array .byte), .int, .int], some .int⟩ := by decide +kernel
theorem ef_0_IIIIII (m : MethodId) (x0 : Int32) (x1 : Int32) (x2 : Int32) (x3 : Int32) (x4 : Int32) (x5 : Int32) : entryFrame m #[(.int x0), (.int x1), (.int x2), (.int x3), (.int x4), (.int x5)] maxLocals = mkF m 0 #[.val (.int x0), .val (.int x1), .val (.int x2), .val (.int x3), .val (.int x4), .val (.int x5), .unset, .unset, .unset, .unset, .unset, .unset, .unset, .unset, .unset, .unset, .unset] [] := by first | (simp [entryFrame, mkF, argsToLocals, Value.category, maxLocals]; done) | rfl
set_option maxRecDepth 65536 in
set_option maxHeartbeats 40000000 in
theorem rm_law (l : Launch) (Z : State) (a0 : Array Value) (hw : ∀ d ∈ tables_1, d.before a0 Z = true) (p1 : Int32) (p2 : Int32) (p3 : Int32) (p4 : Int32) (p5 : Int32) (p6 : Int32) (w1 : Addr) (kw : ClassId) (h0 : Heap) (n0 : Nat) (Z0 : n0 ≤ h0.size) (O0 : Old Z n0 h0) (S0 : Sta Z Z.heap "com/example/templum/templum/validation/Utf8" "LEAST_OF_LENGTH" "[I" (.ref w1)) (V0 : Arv Z Z.heap w1 kw .int (5 : Int32) [(.int (0 : Int32)), (.int (0 : Int32)), (.int (128 : Int32)), (.int (2048 : Int32)), (.int (65536 : Int32))] (.int (0 : Int32))) :
    own_Met l Z x code maxLocals ret room_1 #[(.int p1), (.int p2), (.int p3), (.int p4), (.int p5), (.int p6)] h0 (fun v h L => v = some (.int 1) ∧ Fr n0 L) := by
  intro ws
  refine MetFree.of_bodySF (plainFor_of_name pn_c0) hisR ?_
  intro p e s m args below meth c s₁ Bd hml0 hP hK
  obtain ⟨rfl, hZ, hh⟩ := hP
  have hx := Bd.exec
  have hby := Bd.bytes
  have hml : c.maxLocals = 17 := hml0
  have hown : s.vm.findClass "com/example/templum/templum/validation/Utf8DecodePinLaw" = some m.cls := findClass_of_methodNamed Bd.named
  have hnm := (name_of_methodNamed Bd.named Bd.method).1
  have hlk : meth.locks = false := Bd.notSynchronized
  have X0 : Stand p l e room_1 s m #[(.int p1), (.int p2), (.int p3), (.int p4), (.int p5), (.int p6)] below meth c s₁ [] 0 0 := Stand.of_body Bd
  have e0 : s₁.heap = h0 := by rw [← hh, Bd.state]; rfl
  have N0 := Fr.nil n0
  refine own_body (Q := fun v h L => v = some (.int 1) ∧ Fr n0 L) ?_
  generalize hΦ : own_Fin s below _ _ _ = Φ
  refine own_cast (ef_0_IIIIII m p1 p2 p3 p4 p5 p6) ?_
  show own_Run p e below Φ (s₁.setTop (mkF m 0 #[.val (.int p1), .val (.int p2), .val (.int p3), .val (.int p4), .val (.int p5), .val (.int p6), .unset, .unset, .unset, .unset, .unset, .unset, .unset, .unset, .unset, .unset, .unset] []))
  refine own_go (fun t k => XS.iconst X0.here hx rfl (hb hby at_0) k) ?_
  refine own_go (fun t k => XS.iloadN X0.here hx rfl (hb hby at_1) rfl  k) ?_
  refine own_go (X0.ldcInt hx hown (mvT hZ (hw _ (List.mem_of_getElem? (i := 0) rfl))) (g := (mkF m 2 #[.val (.int p1), .val (.int p2), .val (.int p3), .val (.int p4), .val (.int p5), .val (.int p6), .unset, .unset, .unset, .unset, .unset, .unset, .unset, .unset, .unset, .unset, .unset] [(.int p1), (.int (2 : Int32))])) rfl (hb hby at_2)) ?_
  refine own_go (fun t k => XS.iand X0.here hx rfl (hb hby at_4) rfl k) ?_
  refine own_go (fun t k => XS.iconst X0.here hx rfl (hb hby at_5) k) ?_
  show own_Run p e below Φ (s₁.setTop (mkF m 6 #[.val (.int p1), .val (.int p2), .val (.int p3), .val (.int p4), .val (.int p5), .val (.int p6), .unset, .unset, .unset, .unset, .unset, .unset, .unset, .unset, .unset, .unset, .unset] [(.int (3 : Int32)), (.int (p1 &&& (2147483647 : Int32))), (.int (2 : Int32))]))
  refine own_go (fun t k => Jvm.RoadKit.iremM X0 hx rfl (hb hby at_6) rfl (by decide) k) ?_
  refine own_go (fun t k => XS.iadd X0.here hx rfl (hb hby at_7) rfl k) ?_
  refine own_go (fun t k => XS.istore X0.here hx rfl (hb hby at_8) rfl (l' := #[.val (.int p1), .val (.int p2), .val (.int p3), .val (.int p4), .val (.int p5), .val (.int p6), .val (.int ((2 : Int32) + ((p1 &&& (2147483647 : Int32)) % (3 : Int32)))), .unset, .unset, .unset, .unset, .unset, .unset, .unset, .unset, .unset, .unset]) rfl k) ?_
  show own_Run p e below Φ (s₁.setTop (mkF m 10 #[.val (.int p1), .val (.int p2), .val (.int p3), .val (.int p4), .val (.int p5), .val (.int p6), .val (.int ((2 : Int32) + ((p1 &&& (2147483647 : Int32)) % (3 : Int32)))), .unset, .unset, .unset, .unset, .unset, .unset, .unset, .unset, .unset, .unset] []))
  rcases own_l3c p1 with e1 | e1 | e1
  · rw [e1]
    show own_Run p e below Φ (s₁.setTop (mkF m 10 #[.val (.int p1), .val (.int p2), .val (.int p3), .val (.int p4), .val (.int p5), .val (.int p6), .val (.int (2 : Int32)), .unset, .unset, .unset, .unset, .unset, .unset, .unset, .unset, .unset, .unset] []))
    refine own_go (fun t k => XS.iload X0.here hx rfl (hb hby at_10) rfl  k) ?_
    refine own_go (fun t k => XS.iconst X0.here hx rfl (hb hby at_12) k) ?_
    refine own_go (fun t k => XS.icmpNo X0.here hx rfl (hb hby at_13) rfl (teq (rfl : (2 : Int32) = (2 : Int32))).2 k) ?_
    refine own_go (fun t k => XS.sipush X0.here hx rfl (hb hby at_16) k) ?_
    refine own_go (fun t k => XS.iloadN X0.here hx rfl (hb hby at_19) rfl  k) ?_
    show own_Run p e below Φ (s₁.setTop (mkF m 20 #[.val (.int p1), .val (.int p2), .val (.int p3), .val (.int p4), .val (.int p5), .val (.int p6), .val (.int (2 : Int32)), .unset, .unset, .unset, .unset, .unset, .unset, .unset, .unset, .unset, .unset] [(.int p2), (.int (194 : Int32))]))
    refine own_go (X0.ldcInt hx hown (mvT hZ (hw _ (List.mem_of_getElem? (i := 0) rfl))) (g := (mkF m 20 #[.val (.int p1), .val (.int p2), .val (.int p3), .val (.int p4), .val (.int p5), .val (.int p6), .val (.int (2 : Int32)), .unset, .unset, .unset, .unset, .unset, .unset, .unset, .unset, .unset, .unset] [(.int p2), (.int (194 : Int32))])) rfl (hb hby at_20)) ?_
    refine own_go (fun t k => XS.iand X0.here hx rfl (hb hby at_22) rfl k) ?_
    refine own_go (fun t k => XS.bipush X0.here hx rfl (hb hby at_23) k) ?_
    refine own_go (fun t k => Jvm.RoadKit.iremM X0 hx rfl (hb hby at_25) rfl (by decide) k) ?_
    refine own_go (fun t k => XS.iadd X0.here hx rfl (hb hby at_26) rfl k) ?_
    show own_Run p e below Φ (s₁.setTop (mkF m 27 #[.val (.int p1), .val (.int p2), .val (.int p3), .val (.int p4), .val (.int p5), .val (.int p6), .val (.int (2 : Int32)), .unset, .unset, .unset, .unset, .unset, .unset, .unset, .unset, .unset, .unset] [(.int ((194 : Int32) + ((p2 &&& (2147483647 : Int32)) % (30 : Int32))))]))
    refine own_go (fun t k => XS.istore X0.here hx rfl (hb hby at_27) rfl (l' := #[.val (.int p1), .val (.int p2), .val (.int p3), .val (.int p4), .val (.int p5), .val (.int p6), .val (.int (2 : Int32)), .val (.int ((194 : Int32) + ((p2 &&& (2147483647 : Int32)) % (30 : Int32)))), .unset, .unset, .unset, .unset, .unset, .unset, .unset, .unset, .unset]) rfl k) ?_
    refine own_go (fun t k => XS.goto X0.here hx rfl (pc0 := 29) (pc' := 63) rfl (hb hby at_29) (by decide) (by decide) k) ?_
    refine own_go (fun t k => XS.iloadN X0.here hx rfl (hb hby at_63) rfl  k) ?_
    refine own_go (fun t k => XS.sipush X0.here hx rfl (hb hby at_64) k) ?_
    refine own_go (fun t k => XS.iand X0.here hx rfl (hb hby at_67) rfl k) ?_
    show own_Run p e below Φ (s₁.setTop (mkF m 68 #[.val (.int p1), .val (.int p2), .val (.int p3), .val (.int p4), .val (.int p5), .val (.int p6), .val (.int (2 : Int32)), .val (.int ((194 : Int32) + ((p2 &&& (2147483647 : Int32)) % (30 : Int32)))), .unset, .unset, .unset, .unset, .unset, .unset, .unset, .unset, .unset] [(.int (p3 &&& (255 : Int32)))]))
    refine own_go (fun t k => XS.istore X0.here hx rfl (hb hby at_68) rfl (l' := #[.val (.int p1), .val (.int p2), .val (.int p3), .val (.int p4), .val (.int p5), .val (.int p6), .val (.int (2 : Int32)), .val (.int ((194 : Int32) + ((p2 &&& (2147483647 : Int32)) % (30 : Int32)))), .val (.int (p3 &&& (255 : Int32))), .unset, .unset, .unset, .unset, .unset, .unset, .unset, .unset]) rfl k) ?_
    refine own_go (fun t k => XS.iloadN X0.here hx rfl (hb hby at_70) rfl  k) ?_
    refine own_go (fun t k => XS.sipush X0.here hx rfl (hb hby at_71) k) ?_
    refine own_go (fun t k => XS.iand X0.here hx rfl (hb hby at_74) rfl k) ?_
    refine own_go (fun t k => XS.istore X0.here hx rfl (hb hby at_75) rfl (l' := #[.val (.int p1), .val (.int p2), .val (.int p3), .val (.int p4), .val (.int p5), .val (.int p6), .val (.int (2 : Int32)), .val (.int ((194 : Int32) + ((p2 &&& (2147483647 : Int32)) % (30 : Int32)))), .val (.int (p3 &&& (255 : Int32))), .val (.int (p4 &&& (255 : Int32))), .unset, .unset, .unset, .unset, .unset, .unset, .unset]) rfl k) ?_
    show own_Run p e below Φ (s₁.setTop (mkF m 77 #[.val (.int p1), .val (.int p2), .val (.int p3), .val (.int p4), .val (.int p5), .val (.int p6), .val (.int (2 : Int32)), .val (.int ((194 : Int32) + ((p2 &&& (2147483647 : Int32)) % (30 : Int32)))), .val (.int (p3 &&& (255 : Int32))), .val (.int (p4 &&& (255 : Int32))), .unset, .unset, .unset, .unset, .unset, .unset, .unset] []))
    refine own_go (fun t k => XS.iload X0.here hx rfl (hb hby at_77) rfl  k) ?_
    refine own_go (fun t k => XS.sipush X0.here hx rfl (hb hby at_79) k) ?_
    refine own_go (fun t k => XS.iand X0.here hx rfl (hb hby at_82) rfl k) ?_
    refine own_go (fun t k => XS.istore X0.here hx rfl (hb hby at_83) rfl (l' := #[.val (.int p1), .val (.int p2), .val (.int p3), .val (.int p4), .val (.int p5), .val (.int p6), .val (.int (2 : Int32)), .val (.int ((194 : Int32) + ((p2 &&& (2147483647 : Int32)) % (30 : Int32)))), .val (.int (p3 &&& (255 : Int32))), .val (.int (p4 &&& (255 : Int32))), .val (.int (p5 &&& (255 : Int32))), .unset, .unset, .unset, .unset, .unset, .unset]) rfl k) ?_
    refine own_go (fun t k => XS.iload X0.here hx rfl (hb hby at_85) rfl  k) ?_
    show own_Run p e below Φ (s₁.setTop (mkF m 87 #[.val (.int p1), .val (.int p2), .val (.int p3), .val (.int p4), .val (.int p5), .val (.int p6), .val (.int (2 : Int32)), .val (.int ((194 : Int32) + ((p2 &&& (2147483647 : Int32)) % (30 : Int32)))), .val (.int (p3 &&& (255 : Int32))), .val (.int (p4 &&& (255 : Int32))), .val (.int (p5 &&& (255 : Int32))), .unset, .unset, .unset, .unset, .unset, .unset] [(.int p6)]))
    refine own_go (fun t k => XS.iconst X0.here hx rfl (hb hby at_87) k) ?_
    refine own_go (fun t k => XS.iand X0.here hx rfl (hb hby at_88) rfl k) ?_
    refine own_go (fun t k => XS.istore X0.here hx rfl (hb hby at_89) rfl (l' := #[.val (.int p1), .val (.int p2), .val (.int p3), .val (.int p4), .val (.int p5), .val (.int p6), .val (.int (2 : Int32)), .val (.int ((194 : Int32) + ((p2 &&& (2147483647 : Int32)) % (30 : Int32)))), .val (.int (p3 &&& (255 : Int32))), .val (.int (p4 &&& (255 : Int32))), .val (.int (p5 &&& (255 : Int32))), .val (.int (p6 &&& (3 : Int32))), .unset, .unset, .unset, .unset, .unset]) rfl k) ?_
    show own_Run p e below Φ (s₁.setTop (mkF m 91 #[.val (.int p1), .val (.int p2), .val (.int p3), .val (.int p4), .val (.int p5), .val (.int p6), .val (.int (2 : Int32)), .val (.int ((194 : Int32) + ((p2 &&& (2147483647 : Int32)) % (30 : Int32)))), .val (.int (p3 &&& (255 : Int32))), .val (.int (p4 &&& (255 : Int32))), .val (.int (p5 &&& (255 : Int32))), .val (.int (p6 &&& (3 : Int32))), .unset, .unset, .unset, .unset, .unset] []))
    have hf := own_f2 p2
    generalize efu : ((194 : Int32) + ((p2 &&& (2147483647 : Int32)) % (30 : Int32))) = fu at hf ⊢
    have hc1 := own_255 p3
    generalize ec1 : (p3 &&& (255 : Int32)) = c1 at hc1 ⊢
    have hc2 := own_255 p4
    generalize ec2 : (p4 &&& (255 : Int32)) = c2 at hc2 ⊢
    have hc3 := own_255 p5
    generalize ec3 : (p5 &&& (255 : Int32)) = c3 at hc3 ⊢
    have hoff := own_and3 p6
    generalize eoff : (p6 &&& (3 : Int32)) = off at hoff ⊢
    show own_Run p e below Φ (s₁.setTop (mkF m 91 #[.val (.int p1), .val (.int p2), .val (.int p3), .val (.int p4), .val (.int p5), .val (.int p6), .val (.int (2 : Int32)), .val (.int fu), .val (.int c1), .val (.int c2), .val (.int c3), .val (.int off), .unset, .unset, .unset, .unset, .unset] []))
    refine own_go (fun t k => XS.bipush X0.here hx rfl (hb hby at_91) k) ?_
    refine own_newP X0 hx hZ (hw _ (List.mem_of_getElem? (i := 1) rfl)) e0 (g := (mkF m 93 #[.val (.int p1), .val (.int p2), .val (.int p3), .val (.int p4), .val (.int p5), .val (.int p6), .val (.int (2 : Int32)), .val (.int fu), .val (.int c1), .val (.int c2), .val (.int c3), .val (.int off), .unset, .unset, .unset, .unset, .unset] [(.int (8 : Int32))])) rfl (hb hby at_93) rfl (by decide) 8 (by decide) (by decide) (by decide) (by decide) 8 (fun T1 h1 k1 b1 X1 e1 E1 g1 V1 => ?_)
    replace V1 : Arv Z h1 b1 k1 .byte (8 : Int32) [(.int (0 : Int32)), (.int (0 : Int32)), (.int (0 : Int32)), (.int (0 : Int32)), (.int (0 : Int32)), (.int (0 : Int32)), (.int (0 : Int32)), (.int (0 : Int32))] (.int (0 : Int32)) := V1
    refine own_go (fun t k => XS.astore X1.here hx rfl (hb hby at_95) rfl rfl (l' := #[.val (.int p1), .val (.int p2), .val (.int p3), .val (.int p4), .val (.int p5), .val (.int p6), .val (.int (2 : Int32)), .val (.int fu), .val (.int c1), .val (.int c2), .val (.int c3), .val (.int off), .val (.ref b1), .unset, .unset, .unset, .unset]) rfl k) ?_
    show own_Run p e below Φ (T1.setTop (mkF m 97 #[.val (.int p1), .val (.int p2), .val (.int p3), .val (.int p4), .val (.int p5), .val (.int p6), .val (.int (2 : Int32)), .val (.int fu), .val (.int c1), .val (.int c2), .val (.int c3), .val (.int off), .val (.ref b1), .unset, .unset, .unset, .unset] []))
    refine own_go (fun t k => XS.aload X1.here hx rfl (hb hby at_97) rfl rfl  k) ?_
    refine own_go (fun t k => XS.iload X1.here hx rfl (hb hby at_99) rfl  k) ?_
    refine own_go (fun t k => XS.iload X1.here hx rfl (hb hby at_101) rfl  k) ?_
    refine own_go (fun t k => XS.i2b X1.here hx rfl (hb hby at_103) rfl k) ?_
    refine own_bastore X1 hx hZ e1 V1 (j := off) (own_o0 hoff) off.toNatClampNeg rfl (Nat.lt_of_lt_of_eq (own_i0 hoff) (own_l0 _).symm) (g := (mkF m 104 #[.val (.int p1), .val (.int p2), .val (.int p3), .val (.int p4), .val (.int p5), .val (.int p6), .val (.int (2 : Int32)), .val (.int fu), .val (.int c1), .val (.int c2), .val (.int c3), .val (.int off), .val (.ref b1), .unset, .unset, .unset, .unset] [(.int (fu.toInt8.toInt32)), (.int off), (.ref b1)])) rfl rfl (hb hby at_104) (fun T3 h3 X3 e3 W3 V3 => ?_)
    replace V3 : Arv Z h3 b1 k1 .byte (8 : Int32) (own_v1 (0 : Int32) off (fu.toInt8.toInt32)) (.int (0 : Int32)) := (by rw [own_b8] at V3; exact V3)
    have N3 := Fr.snoc X3 N0 (Nat.le_trans Z0 (Nat.le_of_eq g1.symm))
    show own_Run p e below Φ (T3.setTop (mkF m 105 #[.val (.int p1), .val (.int p2), .val (.int p3), .val (.int p4), .val (.int p5), .val (.int p6), .val (.int (2 : Int32)), .val (.int fu), .val (.int c1), .val (.int c2), .val (.int c3), .val (.int off), .val (.ref b1), .unset, .unset, .unset, .unset] []))
    refine own_go (fun t k => XS.aload X3.here hx rfl (hb hby at_105) rfl rfl  k) ?_
    refine own_go (fun t k => XS.iload X3.here hx rfl (hb hby at_107) rfl  k) ?_
    refine own_go (fun t k => XS.iconst X3.here hx rfl (hb hby at_109) k) ?_
    refine own_go (fun t k => XS.iadd X3.here hx rfl (hb hby at_110) rfl k) ?_
    refine own_go (fun t k => XS.iload X3.here hx rfl (hb hby at_111) rfl  k) ?_
    show own_Run p e below Φ (T3.setTop (mkF m 113 #[.val (.int p1), .val (.int p2), .val (.int p3), .val (.int p4), .val (.int p5), .val (.int p6), .val (.int (2 : Int32)), .val (.int fu), .val (.int c1), .val (.int c2), .val (.int c3), .val (.int off), .val (.ref b1), .unset, .unset, .unset, .unset] [(.int c1), (.int (off + (1 : Int32))), (.ref b1)]))
    refine own_go (fun t k => XS.i2b X3.here hx rfl (hb hby at_113) rfl k) ?_
    refine own_bastore X3 hx hZ e3 V3 (j := (off + (1 : Int32))) (own_o1 hoff) (off + (1 : Int32)).toNatClampNeg rfl (Nat.lt_of_lt_of_eq (own_i1 hoff) (own_l1 _ _ _).symm) (g := (mkF m 114 #[.val (.int p1), .val (.int p2), .val (.int p3), .val (.int p4), .val (.int p5), .val (.int p6), .val (.int (2 : Int32)), .val (.int fu), .val (.int c1), .val (.int c2), .val (.int c3), .val (.int off), .val (.ref b1), .unset, .unset, .unset, .unset] [(.int (c1.toInt8.toInt32)), (.int (off + (1 : Int32))), (.ref b1)])) rfl rfl (hb hby at_114) (fun T4 h4 X4 e4 W4 V4 => ?_)
    replace V4 : Arv Z h4 b1 k1 .byte (8 : Int32) (own_v2 (0 : Int32) off (fu.toInt8.toInt32) (c1.toInt8.toInt32)) (.int (0 : Int32)) := (by rw [own_b8] at V4; exact V4)
    have N4 := Fr.snoc X4 N3 (Nat.le_trans Z0 (Nat.le_of_eq g1.symm))
    refine own_go (fun t k => XS.aload X4.here hx rfl (hb hby at_115) rfl rfl  k) ?_
    refine own_go (fun t k => XS.iload X4.here hx rfl (hb hby at_117) rfl  k) ?_
    refine own_go (fun t k => XS.iconst X4.here hx rfl (hb hby at_119) k) ?_
    show own_Run p e below Φ (T4.setTop (mkF m 120 #[.val (.int p1), .val (.int p2), .val (.int p3), .val (.int p4), .val (.int p5), .val (.int p6), .val (.int (2 : Int32)), .val (.int fu), .val (.int c1), .val (.int c2), .val (.int c3), .val (.int off), .val (.ref b1), .unset, .unset, .unset, .unset] [(.int (2 : Int32)), (.int off), (.ref b1)]))
    refine own_go (fun t k => XS.iadd X4.here hx rfl (hb hby at_120) rfl k) ?_
    refine own_go (fun t k => XS.iload X4.here hx rfl (hb hby at_121) rfl  k) ?_
    refine own_go (fun t k => XS.i2b X4.here hx rfl (hb hby at_123) rfl k) ?_
    refine own_bastore X4 hx hZ e4 V4 (j := (off + (2 : Int32))) (own_o2 hoff) (off + (2 : Int32)).toNatClampNeg rfl (Nat.lt_of_lt_of_eq (own_i2 hoff) (own_l2 _ _ _ _).symm) (g := (mkF m 124 #[.val (.int p1), .val (.int p2), .val (.int p3), .val (.int p4), .val (.int p5), .val (.int p6), .val (.int (2 : Int32)), .val (.int fu), .val (.int c1), .val (.int c2), .val (.int c3), .val (.int off), .val (.ref b1), .unset, .unset, .unset, .unset] [(.int (c2.toInt8.toInt32)), (.int (off + (2 : Int32))), (.ref b1)])) rfl rfl (hb hby at_124) (fun T5 h5 X5 e5 W5 V5 => ?_)
    replace V5 : Arv Z h5 b1 k1 .byte (8 : Int32) (own_v3 (0 : Int32) off (fu.toInt8.toInt32) (c1.toInt8.toInt32) (c2.toInt8.toInt32)) (.int (0 : Int32)) := (by rw [own_b8] at V5; exact V5)
    have N5 := Fr.snoc X5 N4 (Nat.le_trans Z0 (Nat.le_of_eq g1.symm))
    refine own_go (fun t k => XS.aload X5.here hx rfl (hb hby at_125) rfl rfl  k) ?_
    show own_Run p e below Φ (T5.setTop (mkF m 127 #[.val (.int p1), .val (.int p2), .val (.int p3), .val (.int p4), .val (.int p5), .val (.int p6), .val (.int (2 : Int32)), .val (.int fu), .val (.int c1), .val (.int c2), .val (.int c3), .val (.int off), .val (.ref b1), .unset, .unset, .unset, .unset] [(.ref b1)]))
    refine own_go (fun t k => XS.iload X5.here hx rfl (hb hby at_127) rfl  k) ?_
    refine own_go (fun t k => XS.iconst X5.here hx rfl (hb hby at_129) k) ?_
    refine own_go (fun t k => XS.iadd X5.here hx rfl (hb hby at_130) rfl k) ?_
    refine own_go (fun t k => XS.iload X5.here hx rfl (hb hby at_131) rfl  k) ?_
    refine own_go (fun t k => XS.i2b X5.here hx rfl (hb hby at_133) rfl k) ?_
    show own_Run p e below Φ (T5.setTop (mkF m 134 #[.val (.int p1), .val (.int p2), .val (.int p3), .val (.int p4), .val (.int p5), .val (.int p6), .val (.int (2 : Int32)), .val (.int fu), .val (.int c1), .val (.int c2), .val (.int c3), .val (.int off), .val (.ref b1), .unset, .unset, .unset, .unset] [(.int (c3.toInt8.toInt32)), (.int (off + (3 : Int32))), (.ref b1)]))
    refine own_bastore X5 hx hZ e5 V5 (j := (off + (3 : Int32))) (own_o3 hoff) (off + (3 : Int32)).toNatClampNeg rfl (Nat.lt_of_lt_of_eq (own_i3 hoff) (own_l3 _ _ _ _ _).symm) (g := (mkF m 134 #[.val (.int p1), .val (.int p2), .val (.int p3), .val (.int p4), .val (.int p5), .val (.int p6), .val (.int (2 : Int32)), .val (.int fu), .val (.int c1), .val (.int c2), .val (.int c3), .val (.int off), .val (.ref b1), .unset, .unset, .unset, .unset] [(.int (c3.toInt8.toInt32)), (.int (off + (3 : Int32))), (.ref b1)])) rfl rfl (hb hby at_134) (fun T6 h6 X6 e6 W6 V6 => ?_)
    replace V6 : Arv Z h6 b1 k1 .byte (8 : Int32) (own_v4 (0 : Int32) off (fu.toInt8.toInt32) (c1.toInt8.toInt32) (c2.toInt8.toInt32) (c3.toInt8.toInt32)) (.int (0 : Int32)) := (by rw [own_b8] at V6; exact V6)
    have N6 := Fr.snoc X6 N5 (Nat.le_trans Z0 (Nat.le_of_eq g1.symm))
    refine own_go (fun t k => XS.iload X6.here hx rfl (hb hby at_135) rfl  k) ?_
    refine own_go (fun t k => XS.iconst X6.here hx rfl (hb hby at_137) k) ?_
    refine own_go (fun t k => XS.icmpNo X6.here hx rfl (hb hby at_138) rfl (teq (rfl : (2 : Int32) = (2 : Int32))).2 k) ?_
    refine own_go (fun t k => XS.iload X6.here hx rfl (hb hby at_141) rfl  k) ?_
    show own_Run p e below Φ (T6.setTop (mkF m 143 #[.val (.int p1), .val (.int p2), .val (.int p3), .val (.int p4), .val (.int p5), .val (.int p6), .val (.int (2 : Int32)), .val (.int fu), .val (.int c1), .val (.int c2), .val (.int c3), .val (.int off), .val (.ref b1), .unset, .unset, .unset, .unset] [(.int c1)]))
    refine own_go (fun t k => XS.sipush X6.here hx rfl (hb hby at_143) k) ?_
    refine own_go (fun t k => XS.sipush X6.here hx rfl (hb hby at_146) k) ?_
    refine own_callS X6 hx hZ (y := (⟨"com/example/templum/templum/validation/Utf8DecodePinLaw", "in", "(III)Z"⟩ : MethodName)) (W := 0) (argsL := [(.int c1), (.int (128 : Int32)), (.int (191 : Int32))]) (rest := []) hown (hw _ (List.mem_of_getElem? (i := 2) rfl)) (hw _ (List.mem_of_getElem? (i := 3) rfl)) (hw _ (List.mem_of_getElem? (i := 4) rfl)) (hw _ (List.mem_of_getElem? (i := 5) rfl)) (by decide) (own_bk (rm_in l Z a0 hw c1 (128 : Int32) (191 : Int32) h6 n0 ) hZ (hw _ (List.mem_of_getElem? (i := 5) rfl)) (hw _ (List.mem_of_getElem? (i := 4) rfl)) (by decide) (by decide)) e6 (g := (mkF m 149 #[.val (.int p1), .val (.int p2), .val (.int p3), .val (.int p4), .val (.int p5), .val (.int p6), .val (.int (2 : Int32)), .val (.int fu), .val (.int c1), .val (.int c2), .val (.int c3), .val (.int off), .val (.ref b1), .unset, .unset, .unset, .unset] [(.int (191 : Int32)), (.int (128 : Int32)), (.int c1)])) rfl (by rw [hml]; rfl) (lenOf pd_0 rfl) rfl (by show 2 * 0 + _ ≤ _; exact Nat.le_of_eq rfl) (hb hby at_149) (by decide) (by decide) (fun v7 T7 h7 L7 X7 e7 q7 => ?_)
    obtain ⟨rfl, M7, s7⟩ := q7
    replace e7 : T7.heap = h6 := e7.trans s7
    have N7 := Fr.app N6 M7
    refine own_go (fun t k => XS.istore X7.here hx rfl (hb hby at_152) rfl (l' := #[.val (.int p1), .val (.int p2), .val (.int p3), .val (.int p4), .val (.int p5), .val (.int p6), .val (.int (2 : Int32)), .val (.int fu), .val (.int c1), .val (.int c2), .val (.int c3), .val (.int off), .val (.ref b1), .val (.int (own_in c1 (128 : Int32) (191 : Int32))), .unset, .unset, .unset]) rfl k) ?_
    refine own_go (fun t k => XS.iload X7.here hx rfl (hb hby at_154) rfl  k) ?_
    show own_Run p e below Φ (T7.setTop (mkF m 156 #[.val (.int p1), .val (.int p2), .val (.int p3), .val (.int p4), .val (.int p5), .val (.int p6), .val (.int (2 : Int32)), .val (.int fu), .val (.int c1), .val (.int c2), .val (.int c3), .val (.int off), .val (.ref b1), .val (.int (own_in c1 (128 : Int32) (191 : Int32))), .unset, .unset, .unset] [(.int fu)]))
    refine own_go (fun t k => XS.bipush X7.here hx rfl (hb hby at_156) k) ?_
    refine own_go (fun t k => XS.iand X7.here hx rfl (hb hby at_158) rfl k) ?_
    refine own_go (fun t k => XS.bipush X7.here hx rfl (hb hby at_159) k) ?_
    refine own_go (fun t k => XS.ishl X7.here hx rfl (hb hby at_161) rfl k) ?_
    refine own_go (fun t k => XS.iload X7.here hx rfl (hb hby at_162) rfl  k) ?_
    show own_Run p e below Φ (T7.setTop (mkF m 164 #[.val (.int p1), .val (.int p2), .val (.int p3), .val (.int p4), .val (.int p5), .val (.int p6), .val (.int (2 : Int32)), .val (.int fu), .val (.int c1), .val (.int c2), .val (.int c3), .val (.int off), .val (.ref b1), .val (.int (own_in c1 (128 : Int32) (191 : Int32))), .unset, .unset, .unset] [(.int c1), (.int ((fu &&& (31 : Int32)) <<< ((6 : Int32) &&& 31)))]))
    refine own_go (fun t k => XS.bipush X7.here hx rfl (hb hby at_164) k) ?_
    refine own_go (fun t k => XS.iand X7.here hx rfl (hb hby at_166) rfl k) ?_
    refine own_go (fun t k => XS.ior X7.here hx rfl (hb hby at_167) rfl k) ?_
    refine own_go (fun t k => XS.istore X7.here hx rfl (hb hby at_168) rfl (l' := #[.val (.int p1), .val (.int p2), .val (.int p3), .val (.int p4), .val (.int p5), .val (.int p6), .val (.int (2 : Int32)), .val (.int fu), .val (.int c1), .val (.int c2), .val (.int c3), .val (.int off), .val (.ref b1), .val (.int (own_in c1 (128 : Int32) (191 : Int32))), .val (.int (((fu &&& (31 : Int32)) <<< ((6 : Int32) &&& 31)) ||| (c1 &&& (63 : Int32)))), .unset, .unset]) rfl k) ?_
    refine own_go (fun t k => XS.goto X7.here hx rfl (pc0 := 170) (pc' := 397) rfl (hb hby at_170) (by decide) (by decide) k) ?_
    show own_Run p e below Φ (T7.setTop (mkF m 397 #[.val (.int p1), .val (.int p2), .val (.int p3), .val (.int p4), .val (.int p5), .val (.int p6), .val (.int (2 : Int32)), .val (.int fu), .val (.int c1), .val (.int c2), .val (.int c3), .val (.int off), .val (.ref b1), .val (.int (own_in c1 (128 : Int32) (191 : Int32))), .val (.int (((fu &&& (31 : Int32)) <<< ((6 : Int32) &&& 31)) ||| (c1 &&& (63 : Int32)))), .unset, .unset] []))
    refine own_go (fun t k => XS.iload X7.here hx rfl (hb hby at_397) rfl  k) ?_
    by_cases hc399 : (own_in c1 (128 : Int32) (191 : Int32)) = (0 : Int32)
    · refine own_go (fun t k => XS.ifYes X7.here hx rfl (pc0 := 399) (pc' := 407) rfl (hb hby at_399) rfl ((if0 _ _).trans (teq hc399).1) (by decide) (by decide) k) ?_
      refine own_go (fun t k => XS.iconst X7.here hx rfl (hb hby at_407) k) ?_
      refine own_go (fun t k => XS.istore X7.here hx rfl (hb hby at_408) rfl (l' := #[.val (.int p1), .val (.int p2), .val (.int p3), .val (.int p4), .val (.int p5), .val (.int p6), .val (.int (2 : Int32)), .val (.int fu), .val (.int c1), .val (.int c2), .val (.int c3), .val (.int off), .val (.ref b1), .val (.int (own_in c1 (128 : Int32) (191 : Int32))), .val (.int (((fu &&& (31 : Int32)) <<< ((6 : Int32) &&& 31)) ||| (c1 &&& (63 : Int32)))), .val (.int (-1 : Int32)), .unset]) rfl k) ?_
      refine own_go (fun t k => XS.aload X7.here hx rfl (hb hby at_410) rfl rfl  k) ?_
      show own_Run p e below Φ (T7.setTop (mkF m 412 #[.val (.int p1), .val (.int p2), .val (.int p3), .val (.int p4), .val (.int p5), .val (.int p6), .val (.int (2 : Int32)), .val (.int fu), .val (.int c1), .val (.int c2), .val (.int c3), .val (.int off), .val (.ref b1), .val (.int (own_in c1 (128 : Int32) (191 : Int32))), .val (.int (((fu &&& (31 : Int32)) <<< ((6 : Int32) &&& 31)) ||| (c1 &&& (63 : Int32)))), .val (.int (-1 : Int32)), .unset] [(.ref b1)]))
      refine own_go (fun t k => XS.iload X7.here hx rfl (hb hby at_412) rfl  k) ?_
      refine own_go (fun t k => XS.iload X7.here hx rfl (hb hby at_414) rfl  k) ?_
      have F8 : Old Z n0 h6 := (((((O0.ext E1).wr W3 (Nat.le_trans Z0 (Nat.le_of_eq g1.symm))).wr W4 (Nat.le_trans Z0 (Nat.le_of_eq g1.symm))).wr W5 (Nat.le_trans Z0 (Nat.le_of_eq g1.symm))).wr W6 (Nat.le_trans Z0 (Nat.le_of_eq g1.symm)))
      have F9 : Arv Z h6 w1 kw .int (5 : Int32) [(.int (0 : Int32)), (.int (0 : Int32)), (.int (128 : Int32)), (.int (2048 : Int32)), (.int (65536 : Int32))] (.int (0 : Int32)) := V0.ext F8.2
      refine own_callS X7 hx hZ (y := (⟨"com/example/templum/templum/validation/Utf8", "decode", "([BII)I"⟩ : MethodName)) (W := 0) (argsL := [(.ref b1), (.int off), (.int (2 : Int32))]) (rest := []) hown (hw _ (List.mem_of_getElem? (i := 6) rfl)) (hw _ (List.mem_of_getElem? (i := 7) rfl)) (hw _ (List.mem_of_getElem? (i := 8) rfl)) (hw _ (List.mem_of_getElem? (i := 9) rfl)) (by decide) (own_bk (rm_dec2 l Z a0 hw b1 off k1 (own_v4 (0 : Int32) off (fu.toInt8.toInt32) (c1.toInt8.toInt32) (c2.toInt8.toInt32) (c3.toInt8.toInt32)) (0 : Int32) (fu.toInt8.toInt32) (c1.toInt8.toInt32) w1 kw h6 n0 V6 F8 S0 F9 (own_o0 hoff) (own_g40 hoff) (own_o1 hoff) (own_g41 hoff)) hZ (hw _ (List.mem_of_getElem? (i := 9) rfl)) (hw _ (List.mem_of_getElem? (i := 8) rfl)) (by decide) (by decide)) e7 (g := (mkF m 416 #[.val (.int p1), .val (.int p2), .val (.int p3), .val (.int p4), .val (.int p5), .val (.int p6), .val (.int (2 : Int32)), .val (.int fu), .val (.int c1), .val (.int c2), .val (.int c3), .val (.int off), .val (.ref b1), .val (.int (own_in c1 (128 : Int32) (191 : Int32))), .val (.int (((fu &&& (31 : Int32)) <<< ((6 : Int32) &&& 31)) ||| (c1 &&& (63 : Int32)))), .val (.int (-1 : Int32)), .unset] [(.int (2 : Int32)), (.int off), (.ref b1)])) rfl (by rw [hml]; rfl) (lenOf pd_1 rfl) rfl (by show 2 * 0 + _ ≤ _; exact Nat.le_of_eq rfl) (hb hby at_416) (by decide) (by decide) (fun v10 T10 h10 L10 X10 e10 q10 => ?_)
      obtain ⟨rfl, M10, s10⟩ := q10
      replace e10 : T10.heap = h6 := e10.trans s10
      have N10 := Fr.app N7 M10
      refine own_go (fun t k => XS.iload X10.here hx rfl (hb hby at_419) rfl  k) ?_
      have hc421 : (own_dec2 (fu.toInt8.toInt32) (c1.toInt8.toInt32)) = (-1 : Int32) := ((own_law2 hf.1 hf.2 hc1.1 hc1.2).trans (if_pos hc399))
      refine own_go (fun t k => XS.icmpNo X10.here hx rfl (hb hby at_421) rfl (teq hc421).2 k) ?_
      show own_Run p e below Φ (T10.setTop (mkF m 424 #[.val (.int p1), .val (.int p2), .val (.int p3), .val (.int p4), .val (.int p5), .val (.int p6), .val (.int (2 : Int32)), .val (.int fu), .val (.int c1), .val (.int c2), .val (.int c3), .val (.int off), .val (.ref b1), .val (.int (own_in c1 (128 : Int32) (191 : Int32))), .val (.int (((fu &&& (31 : Int32)) <<< ((6 : Int32) &&& 31)) ||| (c1 &&& (63 : Int32)))), .val (.int (-1 : Int32)), .unset] []))
      refine own_go (fun t k => XS.iconst X10.here hx rfl (hb hby at_424) k) ?_
      refine own_go (fun t k => XS.goto X10.here hx rfl (pc0 := 425) (pc' := 429) rfl (hb hby at_425) (by decide) (by decide) k) ?_
      subst hΦ
      exact own_retN X10 hx (t := .boolean) Bd.returns (by simp) hlk (hb hby at_429) e10 ⟨rfl, N10⟩ (by decide) (by decide)
    · refine own_go (fun t k => XS.ifNo X7.here hx rfl (hb hby at_399) rfl ((if0 _ _).trans (feq hc399).1) k) ?_
      refine own_go (fun t k => XS.iload X7.here hx rfl (hb hby at_402) rfl  k) ?_
      refine own_go (fun t k => XS.goto X7.here hx rfl (pc0 := 404) (pc' := 408) rfl (hb hby at_404) (by decide) (by decide) k) ?_
      show own_Run p e below Φ (T7.setTop (mkF m 408 #[.val (.int p1), .val (.int p2), .val (.int p3), .val (.int p4), .val (.int p5), .val (.int p6), .val (.int (2 : Int32)), .val (.int fu), .val (.int c1), .val (.int c2), .val (.int c3), .val (.int off), .val (.ref b1), .val (.int (own_in c1 (128 : Int32) (191 : Int32))), .val (.int (((fu &&& (31 : Int32)) <<< ((6 : Int32) &&& 31)) ||| (c1 &&& (63 : Int32)))), .unset, .unset] [(.int (((fu &&& (31 : Int32)) <<< ((6 : Int32) &&& 31)) ||| (c1 &&& (63 : Int32))))]))
      refine own_go (fun t k => XS.istore X7.here hx rfl (hb hby at_408) rfl (l' := #[.val (.int p1), .val (.int p2), .val (.int p3), .val (.int p4), .val (.int p5), .val (.int p6), .val (.int (2 : Int32)), .val (.int fu), .val (.int c1), .val (.int c2), .val (.int c3), .val (.int off), .val (.ref b1), .val (.int (own_in c1 (128 : Int32) (191 : Int32))), .val (.int (((fu &&& (31 : Int32)) <<< ((6 : Int32) &&& 31)) ||| (c1 &&& (63 : Int32)))), .val (.int (((fu &&& (31 : Int32)) <<< ((6 : Int32) &&& 31)) ||| (c1 &&& (63 : Int32)))), .unset]) rfl k) ?_
      refine own_go (fun t k => XS.aload X7.here hx rfl (hb hby at_410) rfl rfl  k) ?_
      refine own_go (fun t k => XS.iload X7.here hx rfl (hb hby at_412) rfl  k) ?_
      refine own_go (fun t k => XS.iload X7.here hx rfl (hb hby at_414) rfl  k) ?_
      have F11 : Old Z n0 h6 := (((((O0.ext E1).wr W3 (Nat.le_trans Z0 (Nat.le_of_eq g1.symm))).wr W4 (Nat.le_trans Z0 (Nat.le_of_eq g1.symm))).wr W5 (Nat.le_trans Z0 (Nat.le_of_eq g1.symm))).wr W6 (Nat.le_trans Z0 (Nat.le_of_eq g1.symm)))
      have F12 : Arv Z h6 w1 kw .int (5 : Int32) [(.int (0 : Int32)), (.int (0 : Int32)), (.int (128 : Int32)), (.int (2048 : Int32)), (.int (65536 : Int32))] (.int (0 : Int32)) := V0.ext F11.2
      refine own_callS X7 hx hZ (y := (⟨"com/example/templum/templum/validation/Utf8", "decode", "([BII)I"⟩ : MethodName)) (W := 0) (argsL := [(.ref b1), (.int off), (.int (2 : Int32))]) (rest := []) hown (hw _ (List.mem_of_getElem? (i := 6) rfl)) (hw _ (List.mem_of_getElem? (i := 7) rfl)) (hw _ (List.mem_of_getElem? (i := 8) rfl)) (hw _ (List.mem_of_getElem? (i := 9) rfl)) (by decide) (own_bk (rm_dec2 l Z a0 hw b1 off k1 (own_v4 (0 : Int32) off (fu.toInt8.toInt32) (c1.toInt8.toInt32) (c2.toInt8.toInt32) (c3.toInt8.toInt32)) (0 : Int32) (fu.toInt8.toInt32) (c1.toInt8.toInt32) w1 kw h6 n0 V6 F11 S0 F12 (own_o0 hoff) (own_g40 hoff) (own_o1 hoff) (own_g41 hoff)) hZ (hw _ (List.mem_of_getElem? (i := 9) rfl)) (hw _ (List.mem_of_getElem? (i := 8) rfl)) (by decide) (by decide)) e7 (g := (mkF m 416 #[.val (.int p1), .val (.int p2), .val (.int p3), .val (.int p4), .val (.int p5), .val (.int p6), .val (.int (2 : Int32)), .val (.int fu), .val (.int c1), .val (.int c2), .val (.int c3), .val (.int off), .val (.ref b1), .val (.int (own_in c1 (128 : Int32) (191 : Int32))), .val (.int (((fu &&& (31 : Int32)) <<< ((6 : Int32) &&& 31)) ||| (c1 &&& (63 : Int32)))), .val (.int (((fu &&& (31 : Int32)) <<< ((6 : Int32) &&& 31)) ||| (c1 &&& (63 : Int32)))), .unset] [(.int (2 : Int32)), (.int off), (.ref b1)])) rfl (by rw [hml]; rfl) (lenOf pd_1 rfl) rfl (by show 2 * 0 + _ ≤ _; exact Nat.le_of_eq rfl) (hb hby at_416) (by decide) (by decide) (fun v13 T13 h13 L13 X13 e13 q13 => ?_)
      obtain ⟨rfl, M13, s13⟩ := q13
      replace e13 : T13.heap = h6 := e13.trans s13
      have N13 := Fr.app N7 M13
      show own_Run p e below Φ (T13.setTop (mkF m 419 #[.val (.int p1), .val (.int p2), .val (.int p3), .val (.int p4), .val (.int p5), .val (.int p6), .val (.int (2 : Int32)), .val (.int fu), .val (.int c1), .val (.int c2), .val (.int c3), .val (.int off), .val (.ref b1), .val (.int (own_in c1 (128 : Int32) (191 : Int32))), .val (.int (((fu &&& (31 : Int32)) <<< ((6 : Int32) &&& 31)) ||| (c1 &&& (63 : Int32)))), .val (.int (((fu &&& (31 : Int32)) <<< ((6 : Int32) &&& 31)) ||| (c1 &&& (63 : Int32)))), .unset] [(.int (own_dec2 (fu.toInt8.toInt32) (c1.toInt8.toInt32)))]))
      refine own_go (fun t k => XS.iload X13.here hx rfl (hb hby at_419) rfl  k) ?_
      have hc421 : (own_dec2 (fu.toInt8.toInt32) (c1.toInt8.toInt32)) = (((fu &&& (31 : Int32)) <<< ((6 : Int32) &&& 31)) ||| (c1 &&& (63 : Int32))) := ((own_law2 hf.1 hf.2 hc1.1 hc1.2).trans (if_neg hc399))
      refine own_go (fun t k => XS.icmpNo X13.here hx rfl (hb hby at_421) rfl (teq hc421).2 k) ?_
      refine own_go (fun t k => XS.iconst X13.here hx rfl (hb hby at_424) k) ?_
      refine own_go (fun t k => XS.goto X13.here hx rfl (pc0 := 425) (pc' := 429) rfl (hb hby at_425) (by decide) (by decide) k) ?_
      subst hΦ
      exact own_retN X13 hx (t := .boolean) Bd.returns (by simp) hlk (hb hby at_429) e13 ⟨rfl, N13⟩ (by decide) (by decide)
  · rw [e1]
    show own_Run p e below Φ (s₁.setTop (mkF m 10 #[.val (.int p1), .val (.int p2), .val (.int p3), .val (.int p4), .val (.int p5), .val (.int p6), .val (.int (3 : Int32)), .unset, .unset, .unset, .unset, .unset, .unset, .unset, .unset, .unset, .unset] []))
    refine own_go (fun t k => XS.iload X0.here hx rfl (hb hby at_10) rfl  k) ?_
    show own_Run p e below Φ (s₁.setTop (mkF m 12 #[.val (.int p1), .val (.int p2), .val (.int p3), .val (.int p4), .val (.int p5), .val (.int p6), .val (.int (3 : Int32)), .unset, .unset, .unset, .unset, .unset, .unset, .unset, .unset, .unset, .unset] [(.int (3 : Int32))]))
    refine own_go (fun t k => XS.iconst X0.here hx rfl (hb hby at_12) k) ?_
    refine own_go (fun t k => XS.icmpYes X0.here hx rfl (pc0 := 13) (pc' := 32) rfl (hb hby at_13) rfl (feq (by decide : ¬ ((3 : Int32) = (2 : Int32)))).2 (by decide) (by decide) k) ?_
    refine own_go (fun t k => XS.iload X0.here hx rfl (hb hby at_32) rfl  k) ?_
    refine own_go (fun t k => XS.iconst X0.here hx rfl (hb hby at_34) k) ?_
    refine own_go (fun t k => XS.icmpNo X0.here hx rfl (hb hby at_35) rfl (teq (rfl : (3 : Int32) = (3 : Int32))).2 k) ?_
    show own_Run p e below Φ (s₁.setTop (mkF m 38 #[.val (.int p1), .val (.int p2), .val (.int p3), .val (.int p4), .val (.int p5), .val (.int p6), .val (.int (3 : Int32)), .unset, .unset, .unset, .unset, .unset, .unset, .unset, .unset, .unset, .unset] []))
    refine own_go (fun t k => XS.sipush X0.here hx rfl (hb hby at_38) k) ?_
    refine own_go (fun t k => XS.iloadN X0.here hx rfl (hb hby at_41) rfl  k) ?_
    refine own_go (fun t k => XS.bipush X0.here hx rfl (hb hby at_42) k) ?_
    refine own_go (fun t k => XS.iand X0.here hx rfl (hb hby at_44) rfl k) ?_
    refine own_go (fun t k => XS.iadd X0.here hx rfl (hb hby at_45) rfl k) ?_
    show own_Run p e below Φ (s₁.setTop (mkF m 46 #[.val (.int p1), .val (.int p2), .val (.int p3), .val (.int p4), .val (.int p5), .val (.int p6), .val (.int (3 : Int32)), .unset, .unset, .unset, .unset, .unset, .unset, .unset, .unset, .unset, .unset] [(.int ((224 : Int32) + (p2 &&& (15 : Int32))))]))
    refine own_go (fun t k => XS.istore X0.here hx rfl (hb hby at_46) rfl (l' := #[.val (.int p1), .val (.int p2), .val (.int p3), .val (.int p4), .val (.int p5), .val (.int p6), .val (.int (3 : Int32)), .val (.int ((224 : Int32) + (p2 &&& (15 : Int32)))), .unset, .unset, .unset, .unset, .unset, .unset, .unset, .unset, .unset]) rfl k) ?_
    refine own_go (fun t k => XS.goto X0.here hx rfl (pc0 := 48) (pc' := 63) rfl (hb hby at_48) (by decide) (by decide) k) ?_
    refine own_go (fun t k => XS.iloadN X0.here hx rfl (hb hby at_63) rfl  k) ?_
    refine own_go (fun t k => XS.sipush X0.here hx rfl (hb hby at_64) k) ?_
    refine own_go (fun t k => XS.iand X0.here hx rfl (hb hby at_67) rfl k) ?_
    show own_Run p e below Φ (s₁.setTop (mkF m 68 #[.val (.int p1), .val (.int p2), .val (.int p3), .val (.int p4), .val (.int p5), .val (.int p6), .val (.int (3 : Int32)), .val (.int ((224 : Int32) + (p2 &&& (15 : Int32)))), .unset, .unset, .unset, .unset, .unset, .unset, .unset, .unset, .unset] [(.int (p3 &&& (255 : Int32)))]))
    refine own_go (fun t k => XS.istore X0.here hx rfl (hb hby at_68) rfl (l' := #[.val (.int p1), .val (.int p2), .val (.int p3), .val (.int p4), .val (.int p5), .val (.int p6), .val (.int (3 : Int32)), .val (.int ((224 : Int32) + (p2 &&& (15 : Int32)))), .val (.int (p3 &&& (255 : Int32))), .unset, .unset, .unset, .unset, .unset, .unset, .unset, .unset]) rfl k) ?_
    refine own_go (fun t k => XS.iloadN X0.here hx rfl (hb hby at_70) rfl  k) ?_
    refine own_go (fun t k => XS.sipush X0.here hx rfl (hb hby at_71) k) ?_
    refine own_go (fun t k => XS.iand X0.here hx rfl (hb hby at_74) rfl k) ?_
    refine own_go (fun t k => XS.istore X0.here hx rfl (hb hby at_75) rfl (l' := #[.val (.int p1), .val (.int p2), .val (.int p3), .val (.int p4), .val (.int p5), .val (.int p6), .val (.int (3 : Int32)), .val (.int ((224 : Int32) + (p2 &&& (15 : Int32)))), .val (.int (p3 &&& (255 : Int32))), .val (.int (p4 &&& (255 : Int32))), .unset, .unset, .unset, .unset, .unset, .unset, .unset]) rfl k) ?_
    show own_Run p e below Φ (s₁.setTop (mkF m 77 #[.val (.int p1), .val (.int p2), .val (.int p3), .val (.int p4), .val (.int p5), .val (.int p6), .val (.int (3 : Int32)), .val (.int ((224 : Int32) + (p2 &&& (15 : Int32)))), .val (.int (p3 &&& (255 : Int32))), .val (.int (p4 &&& (255 : Int32))), .unset, .unset, .unset, .unset, .unset, .unset, .unset] []))
    refine own_go (fun t k => XS.iload X0.here hx rfl (hb hby at_77) rfl  k) ?_
    refine own_go (fun t k => XS.sipush X0.here hx rfl (hb hby at_79) k) ?_
    refine own_go (fun t k => XS.iand X0.here hx rfl (hb hby at_82) rfl k) ?_
    refine own_go (fun t k => XS.istore X0.here hx rfl (hb hby at_83) rfl (l' := #[.val (.int p1), .val (.int p2), .val (.int p3), .val (.int p4), .val (.int p5), .val (.int p6), .val (.int (3 : Int32)), .val (.int ((224 : Int32) + (p2 &&& (15 : Int32)))), .val (.int (p3 &&& (255 : Int32))), .val (.int (p4 &&& (255 : Int32))), .val (.int (p5 &&& (255 : Int32))), .unset, .unset, .unset, .unset, .unset, .unset]) rfl k) ?_
    refine own_go (fun t k => XS.iload X0.here hx rfl (hb hby at_85) rfl  k) ?_
    show own_Run p e below Φ (s₁.setTop (mkF m 87 #[.val (.int p1), .val (.int p2), .val (.int p3), .val (.int p4), .val (.int p5), .val (.int p6), .val (.int (3 : Int32)), .val (.int ((224 : Int32) + (p2 &&& (15 : Int32)))), .val (.int (p3 &&& (255 : Int32))), .val (.int (p4 &&& (255 : Int32))), .val (.int (p5 &&& (255 : Int32))), .unset, .unset, .unset, .unset, .unset, .unset] [(.int p6)]))
    refine own_go (fun t k => XS.iconst X0.here hx rfl (hb hby at_87) k) ?_
    refine own_go (fun t k => XS.iand X0.here hx rfl (hb hby at_88) rfl k) ?_
    refine own_go (fun t k => XS.istore X0.here hx rfl (hb hby at_89) rfl (l' := #[.val (.int p1), .val (.int p2), .val (.int p3), .val (.int p4), .val (.int p5), .val (.int p6), .val (.int (3 : Int32)), .val (.int ((224 : Int32) + (p2 &&& (15 : Int32)))), .val (.int (p3 &&& (255 : Int32))), .val (.int (p4 &&& (255 : Int32))), .val (.int (p5 &&& (255 : Int32))), .val (.int (p6 &&& (3 : Int32))), .unset, .unset, .unset, .unset, .unset]) rfl k) ?_
    show own_Run p e below Φ (s₁.setTop (mkF m 91 #[.val (.int p1), .val (.int p2), .val (.int p3), .val (.int p4), .val (.int p5), .val (.int p6), .val (.int (3 : Int32)), .val (.int ((224 : Int32) + (p2 &&& (15 : Int32)))), .val (.int (p3 &&& (255 : Int32))), .val (.int (p4 &&& (255 : Int32))), .val (.int (p5 &&& (255 : Int32))), .val (.int (p6 &&& (3 : Int32))), .unset, .unset, .unset, .unset, .unset] []))
    have hf := own_f3 p2
    generalize efu : ((224 : Int32) + (p2 &&& (15 : Int32))) = fu at hf ⊢
    have hc1 := own_255 p3
    generalize ec1 : (p3 &&& (255 : Int32)) = c1 at hc1 ⊢
    have hc2 := own_255 p4
    generalize ec2 : (p4 &&& (255 : Int32)) = c2 at hc2 ⊢
    have hc3 := own_255 p5
    generalize ec3 : (p5 &&& (255 : Int32)) = c3 at hc3 ⊢
    have hoff := own_and3 p6
    generalize eoff : (p6 &&& (3 : Int32)) = off at hoff ⊢
    show own_Run p e below Φ (s₁.setTop (mkF m 91 #[.val (.int p1), .val (.int p2), .val (.int p3), .val (.int p4), .val (.int p5), .val (.int p6), .val (.int (3 : Int32)), .val (.int fu), .val (.int c1), .val (.int c2), .val (.int c3), .val (.int off), .unset, .unset, .unset, .unset, .unset] []))
    refine own_go (fun t k => XS.bipush X0.here hx rfl (hb hby at_91) k) ?_
    refine own_newP X0 hx hZ (hw _ (List.mem_of_getElem? (i := 1) rfl)) e0 (g := (mkF m 93 #[.val (.int p1), .val (.int p2), .val (.int p3), .val (.int p4), .val (.int p5), .val (.int p6), .val (.int (3 : Int32)), .val (.int fu), .val (.int c1), .val (.int c2), .val (.int c3), .val (.int off), .unset, .unset, .unset, .unset, .unset] [(.int (8 : Int32))])) rfl (hb hby at_93) rfl (by decide) 8 (by decide) (by decide) (by decide) (by decide) 8 (fun T14 h14 k14 b14 X14 e14 E14 g14 V14 => ?_)
    replace V14 : Arv Z h14 b14 k14 .byte (8 : Int32) [(.int (0 : Int32)), (.int (0 : Int32)), (.int (0 : Int32)), (.int (0 : Int32)), (.int (0 : Int32)), (.int (0 : Int32)), (.int (0 : Int32)), (.int (0 : Int32))] (.int (0 : Int32)) := V14
    refine own_go (fun t k => XS.astore X14.here hx rfl (hb hby at_95) rfl rfl (l' := #[.val (.int p1), .val (.int p2), .val (.int p3), .val (.int p4), .val (.int p5), .val (.int p6), .val (.int (3 : Int32)), .val (.int fu), .val (.int c1), .val (.int c2), .val (.int c3), .val (.int off), .val (.ref b14), .unset, .unset, .unset, .unset]) rfl k) ?_
    show own_Run p e below Φ (T14.setTop (mkF m 97 #[.val (.int p1), .val (.int p2), .val (.int p3), .val (.int p4), .val (.int p5), .val (.int p6), .val (.int (3 : Int32)), .val (.int fu), .val (.int c1), .val (.int c2), .val (.int c3), .val (.int off), .val (.ref b14), .unset, .unset, .unset, .unset] []))
    refine own_go (fun t k => XS.aload X14.here hx rfl (hb hby at_97) rfl rfl  k) ?_
    refine own_go (fun t k => XS.iload X14.here hx rfl (hb hby at_99) rfl  k) ?_
    refine own_go (fun t k => XS.iload X14.here hx rfl (hb hby at_101) rfl  k) ?_
    refine own_go (fun t k => XS.i2b X14.here hx rfl (hb hby at_103) rfl k) ?_
    refine own_bastore X14 hx hZ e14 V14 (j := off) (own_o0 hoff) off.toNatClampNeg rfl (Nat.lt_of_lt_of_eq (own_i0 hoff) (own_l0 _).symm) (g := (mkF m 104 #[.val (.int p1), .val (.int p2), .val (.int p3), .val (.int p4), .val (.int p5), .val (.int p6), .val (.int (3 : Int32)), .val (.int fu), .val (.int c1), .val (.int c2), .val (.int c3), .val (.int off), .val (.ref b14), .unset, .unset, .unset, .unset] [(.int (fu.toInt8.toInt32)), (.int off), (.ref b14)])) rfl rfl (hb hby at_104) (fun T16 h16 X16 e16 W16 V16 => ?_)
    replace V16 : Arv Z h16 b14 k14 .byte (8 : Int32) (own_v1 (0 : Int32) off (fu.toInt8.toInt32)) (.int (0 : Int32)) := (by rw [own_b8] at V16; exact V16)
    have N16 := Fr.snoc X16 N0 (Nat.le_trans Z0 (Nat.le_of_eq g14.symm))
    show own_Run p e below Φ (T16.setTop (mkF m 105 #[.val (.int p1), .val (.int p2), .val (.int p3), .val (.int p4), .val (.int p5), .val (.int p6), .val (.int (3 : Int32)), .val (.int fu), .val (.int c1), .val (.int c2), .val (.int c3), .val (.int off), .val (.ref b14), .unset, .unset, .unset, .unset] []))
    refine own_go (fun t k => XS.aload X16.here hx rfl (hb hby at_105) rfl rfl  k) ?_
    refine own_go (fun t k => XS.iload X16.here hx rfl (hb hby at_107) rfl  k) ?_
    refine own_go (fun t k => XS.iconst X16.here hx rfl (hb hby at_109) k) ?_
    refine own_go (fun t k => XS.iadd X16.here hx rfl (hb hby at_110) rfl k) ?_
    refine own_go (fun t k => XS.iload X16.here hx rfl (hb hby at_111) rfl  k) ?_
    show own_Run p e below Φ (T16.setTop (mkF m 113 #[.val (.int p1), .val (.int p2), .val (.int p3), .val (.int p4), .val (.int p5), .val (.int p6), .val (.int (3 : Int32)), .val (.int fu), .val (.int c1), .val (.int c2), .val (.int c3), .val (.int off), .val (.ref b14), .unset, .unset, .unset, .unset] [(.int c1), (.int (off + (1 : Int32))), (.ref b14)]))
    refine own_go (fun t k => XS.i2b X16.here hx rfl (hb hby at_113) rfl k) ?_
    refine own_bastore X16 hx hZ e16 V16 (j := (off + (1 : Int32))) (own_o1 hoff) (off + (1 : Int32)).toNatClampNeg rfl (Nat.lt_of_lt_of_eq (own_i1 hoff) (own_l1 _ _ _).symm) (g := (mkF m 114 #[.val (.int p1), .val (.int p2), .val (.int p3), .val (.int p4), .val (.int p5), .val (.int p6), .val (.int (3 : Int32)), .val (.int fu), .val (.int c1), .val (.int c2), .val (.int c3), .val (.int off), .val (.ref b14), .unset, .unset, .unset, .unset] [(.int (c1.toInt8.toInt32)), (.int (off + (1 : Int32))), (.ref b14)])) rfl rfl (hb hby at_114) (fun T17 h17 X17 e17 W17 V17 => ?_)
    replace V17 : Arv Z h17 b14 k14 .byte (8 : Int32) (own_v2 (0 : Int32) off (fu.toInt8.toInt32) (c1.toInt8.toInt32)) (.int (0 : Int32)) := (by rw [own_b8] at V17; exact V17)
    have N17 := Fr.snoc X17 N16 (Nat.le_trans Z0 (Nat.le_of_eq g14.symm))
    refine own_go (fun t k => XS.aload X17.here hx rfl (hb hby at_115) rfl rfl  k) ?_
    refine own_go (fun t k => XS.iload X17.here hx rfl (hb hby at_117) rfl  k) ?_
    refine own_go (fun t k => XS.iconst X17.here hx rfl (hb hby at_119) k) ?_
    show own_Run p e below Φ (T17.setTop (mkF m 120 #[.val (.int p1), .val (.int p2), .val (.int p3), .val (.int p4), .val (.int p5), .val (.int p6), .val (.int (3 : Int32)), .val (.int fu), .val (.int c1), .val (.int c2), .val (.int c3), .val (.int off), .val (.ref b14), .unset, .unset, .unset, .unset] [(.int (2 : Int32)), (.int off), (.ref b14)]))
    refine own_go (fun t k => XS.iadd X17.here hx rfl (hb hby at_120) rfl k) ?_
    refine own_go (fun t k => XS.iload X17.here hx rfl (hb hby at_121) rfl  k) ?_
    refine own_go (fun t k => XS.i2b X17.here hx rfl (hb hby at_123) rfl k) ?_
    refine own_bastore X17 hx hZ e17 V17 (j := (off + (2 : Int32))) (own_o2 hoff) (off + (2 : Int32)).toNatClampNeg rfl (Nat.lt_of_lt_of_eq (own_i2 hoff) (own_l2 _ _ _ _).symm) (g := (mkF m 124 #[.val (.int p1), .val (.int p2), .val (.int p3), .val (.int p4), .val (.int p5), .val (.int p6), .val (.int (3 : Int32)), .val (.int fu), .val (.int c1), .val (.int c2), .val (.int c3), .val (.int off), .val (.ref b14), .unset, .unset, .unset, .unset] [(.int (c2.toInt8.toInt32)), (.int (off + (2 : Int32))), (.ref b14)])) rfl rfl (hb hby at_124) (fun T18 h18 X18 e18 W18 V18 => ?_)
    replace V18 : Arv Z h18 b14 k14 .byte (8 : Int32) (own_v3 (0 : Int32) off (fu.toInt8.toInt32) (c1.toInt8.toInt32) (c2.toInt8.toInt32)) (.int (0 : Int32)) := (by rw [own_b8] at V18; exact V18)
    have N18 := Fr.snoc X18 N17 (Nat.le_trans Z0 (Nat.le_of_eq g14.symm))
    refine own_go (fun t k => XS.aload X18.here hx rfl (hb hby at_125) rfl rfl  k) ?_
    show own_Run p e below Φ (T18.setTop (mkF m 127 #[.val (.int p1), .val (.int p2), .val (.int p3), .val (.int p4), .val (.int p5), .val (.int p6), .val (.int (3 : Int32)), .val (.int fu), .val (.int c1), .val (.int c2), .val (.int c3), .val (.int off), .val (.ref b14), .unset, .unset, .unset, .unset] [(.ref b14)]))
    refine own_go (fun t k => XS.iload X18.here hx rfl (hb hby at_127) rfl  k) ?_
    refine own_go (fun t k => XS.iconst X18.here hx rfl (hb hby at_129) k) ?_
    refine own_go (fun t k => XS.iadd X18.here hx rfl (hb hby at_130) rfl k) ?_
    refine own_go (fun t k => XS.iload X18.here hx rfl (hb hby at_131) rfl  k) ?_
    refine own_go (fun t k => XS.i2b X18.here hx rfl (hb hby at_133) rfl k) ?_
    show own_Run p e below Φ (T18.setTop (mkF m 134 #[.val (.int p1), .val (.int p2), .val (.int p3), .val (.int p4), .val (.int p5), .val (.int p6), .val (.int (3 : Int32)), .val (.int fu), .val (.int c1), .val (.int c2), .val (.int c3), .val (.int off), .val (.ref b14), .unset, .unset, .unset, .unset] [(.int (c3.toInt8.toInt32)), (.int (off + (3 : Int32))), (.ref b14)]))
    refine own_bastore X18 hx hZ e18 V18 (j := (off + (3 : Int32))) (own_o3 hoff) (off + (3 : Int32)).toNatClampNeg rfl (Nat.lt_of_lt_of_eq (own_i3 hoff) (own_l3 _ _ _ _ _).symm) (g := (mkF m 134 #[.val (.int p1), .val (.int p2), .val (.int p3), .val (.int p4), .val (.int p5), .val (.int p6), .val (.int (3 : Int32)), .val (.int fu), .val (.int c1), .val (.int c2), .val (.int c3), .val (.int off), .val (.ref b14), .unset, .unset, .unset, .unset] [(.int (c3.toInt8.toInt32)), (.int (off + (3 : Int32))), (.ref b14)])) rfl rfl (hb hby at_134) (fun T19 h19 X19 e19 W19 V19 => ?_)
    replace V19 : Arv Z h19 b14 k14 .byte (8 : Int32) (own_v4 (0 : Int32) off (fu.toInt8.toInt32) (c1.toInt8.toInt32) (c2.toInt8.toInt32) (c3.toInt8.toInt32)) (.int (0 : Int32)) := (by rw [own_b8] at V19; exact V19)
    have N19 := Fr.snoc X19 N18 (Nat.le_trans Z0 (Nat.le_of_eq g14.symm))
    refine own_go (fun t k => XS.iload X19.here hx rfl (hb hby at_135) rfl  k) ?_
    refine own_go (fun t k => XS.iconst X19.here hx rfl (hb hby at_137) k) ?_
    refine own_go (fun t k => XS.icmpYes X19.here hx rfl (pc0 := 138) (pc' := 173) rfl (hb hby at_138) rfl (feq (by decide : ¬ ((3 : Int32) = (2 : Int32)))).2 (by decide) (by decide) k) ?_
    refine own_go (fun t k => XS.iload X19.here hx rfl (hb hby at_173) rfl  k) ?_
    show own_Run p e below Φ (T19.setTop (mkF m 175 #[.val (.int p1), .val (.int p2), .val (.int p3), .val (.int p4), .val (.int p5), .val (.int p6), .val (.int (3 : Int32)), .val (.int fu), .val (.int c1), .val (.int c2), .val (.int c3), .val (.int off), .val (.ref b14), .unset, .unset, .unset, .unset] [(.int (3 : Int32))]))
    refine own_go (fun t k => XS.iconst X19.here hx rfl (hb hby at_175) k) ?_
    refine own_go (fun t k => XS.icmpNo X19.here hx rfl (hb hby at_176) rfl (teq (rfl : (3 : Int32) = (3 : Int32))).2 k) ?_
    show own_Run p e below Φ (T19.setTop (mkF m 179 #[.val (.int p1), .val (.int p2), .val (.int p3), .val (.int p4), .val (.int p5), .val (.int p6), .val (.int (3 : Int32)), .val (.int fu), .val (.int c1), .val (.int c2), .val (.int c3), .val (.int off), .val (.ref b14), .unset, .unset, .unset, .unset] []))
    have J248_20 : ∀ (ok : Int32) (s15 : Slot) (s16 : Slot) (T21 : State) (h21 : Heap) (l21 : List Loc) (c21 z21 : Nat), (Stand p l e room_1 s m #[(.int p1), (.int p2), (.int p3), (.int p4), (.int p5), (.int p6)] below meth c T21 l21 c21 z21) → (T21.heap = h21) → (Fr n0 l21) → (c21 ≤ 1) → (z21 ≤ 8) → (Arv Z h21 b14 k14 .byte (8 : Int32) (own_v4 (0 : Int32) off (fu.toInt8.toInt32) (c1.toInt8.toInt32) (c2.toInt8.toInt32) (c3.toInt8.toInt32)) (.int (0 : Int32))) → (Old Z n0 h21) → (ok = own_ok3 fu c1 c2) → (One s15) → (One s16) → own_Run p e below Φ (T21.setTop (mkF m 248 #[.val (.int p1), .val (.int p2), .val (.int p3), .val (.int p4), .val (.int p5), .val (.int p6), .val (.int (3 : Int32)), .val (.int fu), .val (.int c1), .val (.int c2), .val (.int c3), .val (.int off), .val (.ref b14), .unset, .unset, s15, s16] [(.int ok)])) := by
      intro ok s15 s16 T21 h21 l21 c21 z21 X21 e21 N21 hc21 hs21 F22 F23 hok o15 o16
      show own_Run p e below Φ (T21.setTop (mkF m 248 #[.val (.int p1), .val (.int p2), .val (.int p3), .val (.int p4), .val (.int p5), .val (.int p6), .val (.int (3 : Int32)), .val (.int fu), .val (.int c1), .val (.int c2), .val (.int c3), .val (.int off), .val (.ref b14), .unset, .unset, s15, s16] [(.int ok)]))
      refine own_go (fun t k => XS.istore X21.here hx rfl (hb hby at_248) rfl (l' := #[.val (.int p1), .val (.int p2), .val (.int p3), .val (.int p4), .val (.int p5), .val (.int p6), .val (.int (3 : Int32)), .val (.int fu), .val (.int c1), .val (.int c2), .val (.int c3), .val (.int off), .val (.ref b14), .val (.int ok), .unset, s15, s16]) rfl k) ?_
      refine own_go (fun t k => XS.iload X21.here hx rfl (hb hby at_250) rfl  k) ?_
      refine own_go (fun t k => XS.bipush X21.here hx rfl (hb hby at_252) k) ?_
      refine own_go (fun t k => XS.iand X21.here hx rfl (hb hby at_254) rfl k) ?_
      refine own_go (fun t k => XS.bipush X21.here hx rfl (hb hby at_255) k) ?_
      show own_Run p e below Φ (T21.setTop (mkF m 257 #[.val (.int p1), .val (.int p2), .val (.int p3), .val (.int p4), .val (.int p5), .val (.int p6), .val (.int (3 : Int32)), .val (.int fu), .val (.int c1), .val (.int c2), .val (.int c3), .val (.int off), .val (.ref b14), .val (.int ok), .unset, s15, s16] [(.int (12 : Int32)), (.int (fu &&& (15 : Int32)))]))
      refine own_go (fun t k => XS.ishl X21.here hx rfl (hb hby at_257) rfl k) ?_
      refine own_go (fun t k => XS.iload X21.here hx rfl (hb hby at_258) rfl  k) ?_
      refine own_go (fun t k => XS.bipush X21.here hx rfl (hb hby at_260) k) ?_
      refine own_go (fun t k => XS.iand X21.here hx rfl (hb hby at_262) rfl k) ?_
      refine own_go (fun t k => XS.bipush X21.here hx rfl (hb hby at_263) k) ?_
      show own_Run p e below Φ (T21.setTop (mkF m 265 #[.val (.int p1), .val (.int p2), .val (.int p3), .val (.int p4), .val (.int p5), .val (.int p6), .val (.int (3 : Int32)), .val (.int fu), .val (.int c1), .val (.int c2), .val (.int c3), .val (.int off), .val (.ref b14), .val (.int ok), .unset, s15, s16] [(.int (6 : Int32)), (.int (c1 &&& (63 : Int32))), (.int ((fu &&& (15 : Int32)) <<< ((12 : Int32) &&& 31)))]))
      refine own_go (fun t k => XS.ishl X21.here hx rfl (hb hby at_265) rfl k) ?_
      refine own_go (fun t k => XS.ior X21.here hx rfl (hb hby at_266) rfl k) ?_
      refine own_go (fun t k => XS.iload X21.here hx rfl (hb hby at_267) rfl  k) ?_
      refine own_go (fun t k => XS.bipush X21.here hx rfl (hb hby at_269) k) ?_
      refine own_go (fun t k => XS.iand X21.here hx rfl (hb hby at_271) rfl k) ?_
      show own_Run p e below Φ (T21.setTop (mkF m 272 #[.val (.int p1), .val (.int p2), .val (.int p3), .val (.int p4), .val (.int p5), .val (.int p6), .val (.int (3 : Int32)), .val (.int fu), .val (.int c1), .val (.int c2), .val (.int c3), .val (.int off), .val (.ref b14), .val (.int ok), .unset, s15, s16] [(.int (c2 &&& (63 : Int32))), (.int (((fu &&& (15 : Int32)) <<< ((12 : Int32) &&& 31)) ||| ((c1 &&& (63 : Int32)) <<< ((6 : Int32) &&& 31))))]))
      refine own_go (fun t k => XS.ior X21.here hx rfl (hb hby at_272) rfl k) ?_
      refine own_go (fun t k => XS.istore X21.here hx rfl (hb hby at_273) rfl (l' := #[.val (.int p1), .val (.int p2), .val (.int p3), .val (.int p4), .val (.int p5), .val (.int p6), .val (.int (3 : Int32)), .val (.int fu), .val (.int c1), .val (.int c2), .val (.int c3), .val (.int off), .val (.ref b14), .val (.int ok), .val (.int ((((fu &&& (15 : Int32)) <<< ((12 : Int32) &&& 31)) ||| ((c1 &&& (63 : Int32)) <<< ((6 : Int32) &&& 31))) ||| (c2 &&& (63 : Int32)))), s15, s16]) rfl k) ?_
      refine own_go (fun t k => XS.goto X21.here hx rfl (pc0 := 275) (pc' := 397) rfl (hb hby at_275) (by decide) (by decide) k) ?_
      refine own_go (fun t k => XS.iload X21.here hx rfl (hb hby at_397) rfl  k) ?_
      by_cases hc399 : ok = (0 : Int32)
      · refine own_go (fun t k => XS.ifYes X21.here hx rfl (pc0 := 399) (pc' := 407) rfl (hb hby at_399) rfl ((if0 _ _).trans (teq hc399).1) (by decide) (by decide) k) ?_
        show own_Run p e below Φ (T21.setTop (mkF m 407 #[.val (.int p1), .val (.int p2), .val (.int p3), .val (.int p4), .val (.int p5), .val (.int p6), .val (.int (3 : Int32)), .val (.int fu), .val (.int c1), .val (.int c2), .val (.int c3), .val (.int off), .val (.ref b14), .val (.int ok), .val (.int ((((fu &&& (15 : Int32)) <<< ((12 : Int32) &&& 31)) ||| ((c1 &&& (63 : Int32)) <<< ((6 : Int32) &&& 31))) ||| (c2 &&& (63 : Int32)))), s15, s16] []))
        refine own_go (fun t k => XS.iconst X21.here hx rfl (hb hby at_407) k) ?_
        refine own_go (fun t k => XS.istore X21.here hx rfl (hb hby at_408) rfl (l' := #[.val (.int p1), .val (.int p2), .val (.int p3), .val (.int p4), .val (.int p5), .val (.int p6), .val (.int (3 : Int32)), .val (.int fu), .val (.int c1), .val (.int c2), .val (.int c3), .val (.int off), .val (.ref b14), .val (.int ok), .val (.int ((((fu &&& (15 : Int32)) <<< ((12 : Int32) &&& 31)) ||| ((c1 &&& (63 : Int32)) <<< ((6 : Int32) &&& 31))) ||| (c2 &&& (63 : Int32)))), .val (.int (-1 : Int32)), s16]) (own_st15 o15) k) ?_
        refine own_go (fun t k => XS.aload X21.here hx rfl (hb hby at_410) rfl rfl  k) ?_
        refine own_go (fun t k => XS.iload X21.here hx rfl (hb hby at_412) rfl  k) ?_
        refine own_go (fun t k => XS.iload X21.here hx rfl (hb hby at_414) rfl  k) ?_
        show own_Run p e below Φ (T21.setTop (mkF m 416 #[.val (.int p1), .val (.int p2), .val (.int p3), .val (.int p4), .val (.int p5), .val (.int p6), .val (.int (3 : Int32)), .val (.int fu), .val (.int c1), .val (.int c2), .val (.int c3), .val (.int off), .val (.ref b14), .val (.int ok), .val (.int ((((fu &&& (15 : Int32)) <<< ((12 : Int32) &&& 31)) ||| ((c1 &&& (63 : Int32)) <<< ((6 : Int32) &&& 31))) ||| (c2 &&& (63 : Int32)))), .val (.int (-1 : Int32)), s16] [(.int (3 : Int32)), (.int off), (.ref b14)]))
        have F24 : Arv Z h21 w1 kw .int (5 : Int32) [(.int (0 : Int32)), (.int (0 : Int32)), (.int (128 : Int32)), (.int (2048 : Int32)), (.int (65536 : Int32))] (.int (0 : Int32)) := V0.ext F23.2
        refine own_callS X21 hx hZ (y := (⟨"com/example/templum/templum/validation/Utf8", "decode", "([BII)I"⟩ : MethodName)) (W := 0) (argsL := [(.ref b14), (.int off), (.int (3 : Int32))]) (rest := []) hown (hw _ (List.mem_of_getElem? (i := 6) rfl)) (hw _ (List.mem_of_getElem? (i := 7) rfl)) (hw _ (List.mem_of_getElem? (i := 8) rfl)) (hw _ (List.mem_of_getElem? (i := 9) rfl)) (by decide) (own_bk (rm_dec3 l Z a0 hw b14 off k14 (own_v4 (0 : Int32) off (fu.toInt8.toInt32) (c1.toInt8.toInt32) (c2.toInt8.toInt32) (c3.toInt8.toInt32)) (0 : Int32) (fu.toInt8.toInt32) (c1.toInt8.toInt32) (c2.toInt8.toInt32) w1 kw h21 n0 F22 F23 S0 F24 (own_o0 hoff) (own_g40 hoff) (own_o1 hoff) (own_g41 hoff) (own_o2 hoff) (own_g42 hoff)) hZ (hw _ (List.mem_of_getElem? (i := 9) rfl)) (hw _ (List.mem_of_getElem? (i := 8) rfl)) (by decide) (by decide)) e21 (g := (mkF m 416 #[.val (.int p1), .val (.int p2), .val (.int p3), .val (.int p4), .val (.int p5), .val (.int p6), .val (.int (3 : Int32)), .val (.int fu), .val (.int c1), .val (.int c2), .val (.int c3), .val (.int off), .val (.ref b14), .val (.int ok), .val (.int ((((fu &&& (15 : Int32)) <<< ((12 : Int32) &&& 31)) ||| ((c1 &&& (63 : Int32)) <<< ((6 : Int32) &&& 31))) ||| (c2 &&& (63 : Int32)))), .val (.int (-1 : Int32)), s16] [(.int (3 : Int32)), (.int off), (.ref b14)])) rfl (by rw [hml]; rfl) (lenOf pd_1 rfl) rfl (by show 2 * 0 + _ ≤ _; exact Nat.le_of_eq rfl) (hb hby at_416) (own_le hc21 (by decide)) (own_le hs21 (by decide)) (fun v25 T25 h25 L25 X25 e25 q25 => ?_)
        obtain ⟨rfl, M25, s25⟩ := q25
        replace e25 : T25.heap = h21 := e25.trans s25
        have N25 := Fr.app N21 M25
        refine own_go (fun t k => XS.iload X25.here hx rfl (hb hby at_419) rfl  k) ?_
        have hc421 : (own_dec3 (fu.toInt8.toInt32) (c1.toInt8.toInt32) (c2.toInt8.toInt32)) = (-1 : Int32) := ((own_law3 hf.1 hf.2 hc1.1 hc1.2 hc2.1 hc2.2).trans (if_pos (hok ▸ hc399)))
        refine own_go (fun t k => XS.icmpNo X25.here hx rfl (hb hby at_421) rfl (teq hc421).2 k) ?_
        refine own_go (fun t k => XS.iconst X25.here hx rfl (hb hby at_424) k) ?_
        refine own_go (fun t k => XS.goto X25.here hx rfl (pc0 := 425) (pc' := 429) rfl (hb hby at_425) (by decide) (by decide) k) ?_
        show own_Run p e below Φ (T25.setTop (mkF m 429 #[.val (.int p1), .val (.int p2), .val (.int p3), .val (.int p4), .val (.int p5), .val (.int p6), .val (.int (3 : Int32)), .val (.int fu), .val (.int c1), .val (.int c2), .val (.int c3), .val (.int off), .val (.ref b14), .val (.int ok), .val (.int ((((fu &&& (15 : Int32)) <<< ((12 : Int32) &&& 31)) ||| ((c1 &&& (63 : Int32)) <<< ((6 : Int32) &&& 31))) ||| (c2 &&& (63 : Int32)))), .val (.int (-1 : Int32)), s16] [(.int (1 : Int32))]))
        subst hΦ
        exact own_retN X25 hx (t := .boolean) Bd.returns (by simp) hlk (hb hby at_429) e25 ⟨rfl, N25⟩ (Nat.le_trans (Nat.add_le_add_right hc21 0) (by decide)) (Nat.le_trans (Nat.add_le_add_right hs21 0) (by decide))
      · refine own_go (fun t k => XS.ifNo X21.here hx rfl (hb hby at_399) rfl ((if0 _ _).trans (feq hc399).1) k) ?_
        refine own_go (fun t k => XS.iload X21.here hx rfl (hb hby at_402) rfl  k) ?_
        refine own_go (fun t k => XS.goto X21.here hx rfl (pc0 := 404) (pc' := 408) rfl (hb hby at_404) (by decide) (by decide) k) ?_
        refine own_go (fun t k => XS.istore X21.here hx rfl (hb hby at_408) rfl (l' := #[.val (.int p1), .val (.int p2), .val (.int p3), .val (.int p4), .val (.int p5), .val (.int p6), .val (.int (3 : Int32)), .val (.int fu), .val (.int c1), .val (.int c2), .val (.int c3), .val (.int off), .val (.ref b14), .val (.int ok), .val (.int ((((fu &&& (15 : Int32)) <<< ((12 : Int32) &&& 31)) ||| ((c1 &&& (63 : Int32)) <<< ((6 : Int32) &&& 31))) ||| (c2 &&& (63 : Int32)))), .val (.int ((((fu &&& (15 : Int32)) <<< ((12 : Int32) &&& 31)) ||| ((c1 &&& (63 : Int32)) <<< ((6 : Int32) &&& 31))) ||| (c2 &&& (63 : Int32)))), s16]) (own_st15 o15) k) ?_
        refine own_go (fun t k => XS.aload X21.here hx rfl (hb hby at_410) rfl rfl  k) ?_
        show own_Run p e below Φ (T21.setTop (mkF m 412 #[.val (.int p1), .val (.int p2), .val (.int p3), .val (.int p4), .val (.int p5), .val (.int p6), .val (.int (3 : Int32)), .val (.int fu), .val (.int c1), .val (.int c2), .val (.int c3), .val (.int off), .val (.ref b14), .val (.int ok), .val (.int ((((fu &&& (15 : Int32)) <<< ((12 : Int32) &&& 31)) ||| ((c1 &&& (63 : Int32)) <<< ((6 : Int32) &&& 31))) ||| (c2 &&& (63 : Int32)))), .val (.int ((((fu &&& (15 : Int32)) <<< ((12 : Int32) &&& 31)) ||| ((c1 &&& (63 : Int32)) <<< ((6 : Int32) &&& 31))) ||| (c2 &&& (63 : Int32)))), s16] [(.ref b14)]))
        refine own_go (fun t k => XS.iload X21.here hx rfl (hb hby at_412) rfl  k) ?_
        refine own_go (fun t k => XS.iload X21.here hx rfl (hb hby at_414) rfl  k) ?_
        have F26 : Arv Z h21 w1 kw .int (5 : Int32) [(.int (0 : Int32)), (.int (0 : Int32)), (.int (128 : Int32)), (.int (2048 : Int32)), (.int (65536 : Int32))] (.int (0 : Int32)) := V0.ext F23.2
        refine own_callS X21 hx hZ (y := (⟨"com/example/templum/templum/validation/Utf8", "decode", "([BII)I"⟩ : MethodName)) (W := 0) (argsL := [(.ref b14), (.int off), (.int (3 : Int32))]) (rest := []) hown (hw _ (List.mem_of_getElem? (i := 6) rfl)) (hw _ (List.mem_of_getElem? (i := 7) rfl)) (hw _ (List.mem_of_getElem? (i := 8) rfl)) (hw _ (List.mem_of_getElem? (i := 9) rfl)) (by decide) (own_bk (rm_dec3 l Z a0 hw b14 off k14 (own_v4 (0 : Int32) off (fu.toInt8.toInt32) (c1.toInt8.toInt32) (c2.toInt8.toInt32) (c3.toInt8.toInt32)) (0 : Int32) (fu.toInt8.toInt32) (c1.toInt8.toInt32) (c2.toInt8.toInt32) w1 kw h21 n0 F22 F23 S0 F26 (own_o0 hoff) (own_g40 hoff) (own_o1 hoff) (own_g41 hoff) (own_o2 hoff) (own_g42 hoff)) hZ (hw _ (List.mem_of_getElem? (i := 9) rfl)) (hw _ (List.mem_of_getElem? (i := 8) rfl)) (by decide) (by decide)) e21 (g := (mkF m 416 #[.val (.int p1), .val (.int p2), .val (.int p3), .val (.int p4), .val (.int p5), .val (.int p6), .val (.int (3 : Int32)), .val (.int fu), .val (.int c1), .val (.int c2), .val (.int c3), .val (.int off), .val (.ref b14), .val (.int ok), .val (.int ((((fu &&& (15 : Int32)) <<< ((12 : Int32) &&& 31)) ||| ((c1 &&& (63 : Int32)) <<< ((6 : Int32) &&& 31))) ||| (c2 &&& (63 : Int32)))), .val (.int ((((fu &&& (15 : Int32)) <<< ((12 : Int32) &&& 31)) ||| ((c1 &&& (63 : Int32)) <<< ((6 : Int32) &&& 31))) ||| (c2 &&& (63 : Int32)))), s16] [(.int (3 : Int32)), (.int off), (.ref b14)])) rfl (by rw [hml]; rfl) (lenOf pd_1 rfl) rfl (by show 2 * 0 + _ ≤ _; exact Nat.le_of_eq rfl) (hb hby at_416) (own_le hc21 (by decide)) (own_le hs21 (by decide)) (fun v27 T27 h27 L27 X27 e27 q27 => ?_)
        obtain ⟨rfl, M27, s27⟩ := q27
        replace e27 : T27.heap = h21 := e27.trans s27
        have N27 := Fr.app N21 M27
        refine own_go (fun t k => XS.iload X27.here hx rfl (hb hby at_419) rfl  k) ?_
        have hc421 : (own_dec3 (fu.toInt8.toInt32) (c1.toInt8.toInt32) (c2.toInt8.toInt32)) = ((((fu &&& (15 : Int32)) <<< ((12 : Int32) &&& 31)) ||| ((c1 &&& (63 : Int32)) <<< ((6 : Int32) &&& 31))) ||| (c2 &&& (63 : Int32))) := ((own_law3 hf.1 hf.2 hc1.1 hc1.2 hc2.1 hc2.2).trans (if_neg (hok ▸ hc399)))
        refine own_go (fun t k => XS.icmpNo X27.here hx rfl (hb hby at_421) rfl (teq hc421).2 k) ?_
        show own_Run p e below Φ (T27.setTop (mkF m 424 #[.val (.int p1), .val (.int p2), .val (.int p3), .val (.int p4), .val (.int p5), .val (.int p6), .val (.int (3 : Int32)), .val (.int fu), .val (.int c1), .val (.int c2), .val (.int c3), .val (.int off), .val (.ref b14), .val (.int ok), .val (.int ((((fu &&& (15 : Int32)) <<< ((12 : Int32) &&& 31)) ||| ((c1 &&& (63 : Int32)) <<< ((6 : Int32) &&& 31))) ||| (c2 &&& (63 : Int32)))), .val (.int ((((fu &&& (15 : Int32)) <<< ((12 : Int32) &&& 31)) ||| ((c1 &&& (63 : Int32)) <<< ((6 : Int32) &&& 31))) ||| (c2 &&& (63 : Int32)))), s16] []))
        refine own_go (fun t k => XS.iconst X27.here hx rfl (hb hby at_424) k) ?_
        refine own_go (fun t k => XS.goto X27.here hx rfl (pc0 := 425) (pc' := 429) rfl (hb hby at_425) (by decide) (by decide) k) ?_
        subst hΦ
        exact own_retN X27 hx (t := .boolean) Bd.returns (by simp) hlk (hb hby at_429) e27 ⟨rfl, N27⟩ (Nat.le_trans (Nat.add_le_add_right hc21 0) (by decide)) (Nat.le_trans (Nat.add_le_add_right hs21 0) (by decide))
    show own_Run p e below Φ (T19.setTop (mkF m 179 #[.val (.int p1), .val (.int p2), .val (.int p3), .val (.int p4), .val (.int p5), .val (.int p6), .val (.int (3 : Int32)), .val (.int fu), .val (.int c1), .val (.int c2), .val (.int c3), .val (.int off), .val (.ref b14), .unset, .unset, .unset, .unset] []))
    refine own_go (fun t k => XS.iload X19.here hx rfl (hb hby at_179) rfl  k) ?_
    refine own_go (fun t k => XS.sipush X19.here hx rfl (hb hby at_181) k) ?_
    by_cases hc184 : fu = (224 : Int32)
    · refine own_go (fun t k => XS.icmpNo X19.here hx rfl (hb hby at_184) rfl (teq hc184).2 k) ?_
      show own_Run p e below Φ (T19.setTop (mkF m 187 #[.val (.int p1), .val (.int p2), .val (.int p3), .val (.int p4), .val (.int p5), .val (.int p6), .val (.int (3 : Int32)), .val (.int fu), .val (.int c1), .val (.int c2), .val (.int c3), .val (.int off), .val (.ref b14), .unset, .unset, .unset, .unset] []))
      refine own_go (fun t k => XS.sipush X19.here hx rfl (hb hby at_187) k) ?_
      refine own_go (fun t k => XS.goto X19.here hx rfl (pc0 := 190) (pc' := 196) rfl (hb hby at_190) (by decide) (by decide) k) ?_
      refine own_go (fun t k => XS.istore X19.here hx rfl (hb hby at_196) rfl (l' := #[.val (.int p1), .val (.int p2), .val (.int p3), .val (.int p4), .val (.int p5), .val (.int p6), .val (.int (3 : Int32)), .val (.int fu), .val (.int c1), .val (.int c2), .val (.int c3), .val (.int off), .val (.ref b14), .unset, .unset, .val (.int (160 : Int32)), .unset]) rfl k) ?_
      refine own_go (fun t k => XS.iload X19.here hx rfl (hb hby at_198) rfl  k) ?_
      refine own_go (fun t k => XS.sipush X19.here hx rfl (hb hby at_200) k) ?_
      show own_Run p e below Φ (T19.setTop (mkF m 203 #[.val (.int p1), .val (.int p2), .val (.int p3), .val (.int p4), .val (.int p5), .val (.int p6), .val (.int (3 : Int32)), .val (.int fu), .val (.int c1), .val (.int c2), .val (.int c3), .val (.int off), .val (.ref b14), .unset, .unset, .val (.int (160 : Int32)), .unset] [(.int (237 : Int32)), (.int fu)]))
      by_cases hc203 : fu = (237 : Int32)
      · refine own_go (fun t k => XS.icmpNo X19.here hx rfl (hb hby at_203) rfl (teq hc203).2 k) ?_
        refine own_go (fun t k => XS.sipush X19.here hx rfl (hb hby at_206) k) ?_
        refine own_go (fun t k => XS.goto X19.here hx rfl (pc0 := 209) (pc' := 215) rfl (hb hby at_209) (by decide) (by decide) k) ?_
        refine own_go (fun t k => XS.istore X19.here hx rfl (hb hby at_215) rfl (l' := #[.val (.int p1), .val (.int p2), .val (.int p3), .val (.int p4), .val (.int p5), .val (.int p6), .val (.int (3 : Int32)), .val (.int fu), .val (.int c1), .val (.int c2), .val (.int c3), .val (.int off), .val (.ref b14), .unset, .unset, .val (.int (160 : Int32)), .val (.int (159 : Int32))]) rfl k) ?_
        refine own_go (fun t k => XS.iload X19.here hx rfl (hb hby at_217) rfl  k) ?_
        show own_Run p e below Φ (T19.setTop (mkF m 219 #[.val (.int p1), .val (.int p2), .val (.int p3), .val (.int p4), .val (.int p5), .val (.int p6), .val (.int (3 : Int32)), .val (.int fu), .val (.int c1), .val (.int c2), .val (.int c3), .val (.int off), .val (.ref b14), .unset, .unset, .val (.int (160 : Int32)), .val (.int (159 : Int32))] [(.int c1)]))
        refine own_go (fun t k => XS.iload X19.here hx rfl (hb hby at_219) rfl  k) ?_
        refine own_go (fun t k => XS.iload X19.here hx rfl (hb hby at_221) rfl  k) ?_
        refine own_callS X19 hx hZ (y := (⟨"com/example/templum/templum/validation/Utf8DecodePinLaw", "in", "(III)Z"⟩ : MethodName)) (W := 0) (argsL := [(.int c1), (.int (160 : Int32)), (.int (159 : Int32))]) (rest := []) hown (hw _ (List.mem_of_getElem? (i := 2) rfl)) (hw _ (List.mem_of_getElem? (i := 3) rfl)) (hw _ (List.mem_of_getElem? (i := 4) rfl)) (hw _ (List.mem_of_getElem? (i := 5) rfl)) (by decide) (own_bk (rm_in l Z a0 hw c1 (160 : Int32) (159 : Int32) h19 n0 ) hZ (hw _ (List.mem_of_getElem? (i := 5) rfl)) (hw _ (List.mem_of_getElem? (i := 4) rfl)) (by decide) (by decide)) e19 (g := (mkF m 223 #[.val (.int p1), .val (.int p2), .val (.int p3), .val (.int p4), .val (.int p5), .val (.int p6), .val (.int (3 : Int32)), .val (.int fu), .val (.int c1), .val (.int c2), .val (.int c3), .val (.int off), .val (.ref b14), .unset, .unset, .val (.int (160 : Int32)), .val (.int (159 : Int32))] [(.int (159 : Int32)), (.int (160 : Int32)), (.int c1)])) rfl (by rw [hml]; rfl) (lenOf pd_0 rfl) rfl (by show 2 * 0 + _ ≤ _; exact Nat.le_of_eq rfl) (hb hby at_223) (by decide) (by decide) (fun v28 T28 h28 L28 X28 e28 q28 => ?_)
        obtain ⟨rfl, M28, s28⟩ := q28
        replace e28 : T28.heap = h19 := e28.trans s28
        have N28 := Fr.app N19 M28
        by_cases hc226 : (own_in c1 (160 : Int32) (159 : Int32)) = (0 : Int32)
        · refine own_go (fun t k => XS.ifYes X28.here hx rfl (pc0 := 226) (pc' := 247) rfl (hb hby at_226) rfl ((if0 _ _).trans (teq hc226).1) (by decide) (by decide) k) ?_
          refine own_go (fun t k => XS.iconst X28.here hx rfl (hb hby at_247) k) ?_
          have F29 : Old Z n0 h19 := (((((O0.ext E14).wr W16 (Nat.le_trans Z0 (Nat.le_of_eq g14.symm))).wr W17 (Nat.le_trans Z0 (Nat.le_of_eq g14.symm))).wr W18 (Nat.le_trans Z0 (Nat.le_of_eq g14.symm))).wr W19 (Nat.le_trans Z0 (Nat.le_of_eq g14.symm)))
          exact J248_20 (0 : Int32) (.val (.int (160 : Int32))) (.val (.int (159 : Int32))) T28 h19 _ _ _ X28 e28 N28 (by decide) (by decide) V19 F29 (by unfold own_ok3; rw [if_pos hc184, if_pos hc203, if_pos hc226]) (One.val rfl) (One.val rfl)
        · refine own_go (fun t k => XS.ifNo X28.here hx rfl (hb hby at_226) rfl ((if0 _ _).trans (feq hc226).1) k) ?_
          show own_Run p e below Φ (T28.setTop (mkF m 229 #[.val (.int p1), .val (.int p2), .val (.int p3), .val (.int p4), .val (.int p5), .val (.int p6), .val (.int (3 : Int32)), .val (.int fu), .val (.int c1), .val (.int c2), .val (.int c3), .val (.int off), .val (.ref b14), .unset, .unset, .val (.int (160 : Int32)), .val (.int (159 : Int32))] []))
          refine own_go (fun t k => XS.iload X28.here hx rfl (hb hby at_229) rfl  k) ?_
          refine own_go (fun t k => XS.sipush X28.here hx rfl (hb hby at_231) k) ?_
          refine own_go (fun t k => XS.sipush X28.here hx rfl (hb hby at_234) k) ?_
          refine own_callS X28 hx hZ (y := (⟨"com/example/templum/templum/validation/Utf8DecodePinLaw", "in", "(III)Z"⟩ : MethodName)) (W := 0) (argsL := [(.int c2), (.int (128 : Int32)), (.int (191 : Int32))]) (rest := []) hown (hw _ (List.mem_of_getElem? (i := 2) rfl)) (hw _ (List.mem_of_getElem? (i := 3) rfl)) (hw _ (List.mem_of_getElem? (i := 4) rfl)) (hw _ (List.mem_of_getElem? (i := 5) rfl)) (by decide) (own_bk (rm_in l Z a0 hw c2 (128 : Int32) (191 : Int32) h19 n0 ) hZ (hw _ (List.mem_of_getElem? (i := 5) rfl)) (hw _ (List.mem_of_getElem? (i := 4) rfl)) (by decide) (by decide)) e28 (g := (mkF m 237 #[.val (.int p1), .val (.int p2), .val (.int p3), .val (.int p4), .val (.int p5), .val (.int p6), .val (.int (3 : Int32)), .val (.int fu), .val (.int c1), .val (.int c2), .val (.int c3), .val (.int off), .val (.ref b14), .unset, .unset, .val (.int (160 : Int32)), .val (.int (159 : Int32))] [(.int (191 : Int32)), (.int (128 : Int32)), (.int c2)])) rfl (by rw [hml]; rfl) (lenOf pd_0 rfl) rfl (by show 2 * 0 + _ ≤ _; exact Nat.le_of_eq rfl) (hb hby at_237) (by decide) (by decide) (fun v30 T30 h30 L30 X30 e30 q30 => ?_)
          obtain ⟨rfl, M30, s30⟩ := q30
          replace e30 : T30.heap = h19 := e30.trans s30
          have N30 := Fr.app N28 M30
          by_cases hc240 : (own_in c2 (128 : Int32) (191 : Int32)) = (0 : Int32)
          · refine own_go (fun t k => XS.ifYes X30.here hx rfl (pc0 := 240) (pc' := 247) rfl (hb hby at_240) rfl ((if0 _ _).trans (teq hc240).1) (by decide) (by decide) k) ?_
            show own_Run p e below Φ (T30.setTop (mkF m 247 #[.val (.int p1), .val (.int p2), .val (.int p3), .val (.int p4), .val (.int p5), .val (.int p6), .val (.int (3 : Int32)), .val (.int fu), .val (.int c1), .val (.int c2), .val (.int c3), .val (.int off), .val (.ref b14), .unset, .unset, .val (.int (160 : Int32)), .val (.int (159 : Int32))] []))
            refine own_go (fun t k => XS.iconst X30.here hx rfl (hb hby at_247) k) ?_
            have F31 : Old Z n0 h19 := (((((O0.ext E14).wr W16 (Nat.le_trans Z0 (Nat.le_of_eq g14.symm))).wr W17 (Nat.le_trans Z0 (Nat.le_of_eq g14.symm))).wr W18 (Nat.le_trans Z0 (Nat.le_of_eq g14.symm))).wr W19 (Nat.le_trans Z0 (Nat.le_of_eq g14.symm)))
            exact J248_20 (0 : Int32) (.val (.int (160 : Int32))) (.val (.int (159 : Int32))) T30 h19 _ _ _ X30 e30 N30 (by decide) (by decide) V19 F31 (by unfold own_ok3; rw [if_pos hc184, if_pos hc203, if_neg hc226, if_pos hc240]) (One.val rfl) (One.val rfl)
          · refine own_go (fun t k => XS.ifNo X30.here hx rfl (hb hby at_240) rfl ((if0 _ _).trans (feq hc240).1) k) ?_
            refine own_go (fun t k => XS.iconst X30.here hx rfl (hb hby at_243) k) ?_
            refine own_go (fun t k => XS.goto X30.here hx rfl (pc0 := 244) (pc' := 248) rfl (hb hby at_244) (by decide) (by decide) k) ?_
            have F32 : Old Z n0 h19 := (((((O0.ext E14).wr W16 (Nat.le_trans Z0 (Nat.le_of_eq g14.symm))).wr W17 (Nat.le_trans Z0 (Nat.le_of_eq g14.symm))).wr W18 (Nat.le_trans Z0 (Nat.le_of_eq g14.symm))).wr W19 (Nat.le_trans Z0 (Nat.le_of_eq g14.symm)))
            exact J248_20 (1 : Int32) (.val (.int (160 : Int32))) (.val (.int (159 : Int32))) T30 h19 _ _ _ X30 e30 N30 (by decide) (by decide) V19 F32 (by unfold own_ok3; rw [if_pos hc184, if_pos hc203, if_neg hc226, if_neg hc240]) (One.val rfl) (One.val rfl)
      · refine own_go (fun t k => XS.icmpYes X19.here hx rfl (pc0 := 203) (pc' := 212) rfl (hb hby at_203) rfl (feq hc203).2 (by decide) (by decide) k) ?_
        refine own_go (fun t k => XS.sipush X19.here hx rfl (hb hby at_212) k) ?_
        refine own_go (fun t k => XS.istore X19.here hx rfl (hb hby at_215) rfl (l' := #[.val (.int p1), .val (.int p2), .val (.int p3), .val (.int p4), .val (.int p5), .val (.int p6), .val (.int (3 : Int32)), .val (.int fu), .val (.int c1), .val (.int c2), .val (.int c3), .val (.int off), .val (.ref b14), .unset, .unset, .val (.int (160 : Int32)), .val (.int (191 : Int32))]) rfl k) ?_
        show own_Run p e below Φ (T19.setTop (mkF m 217 #[.val (.int p1), .val (.int p2), .val (.int p3), .val (.int p4), .val (.int p5), .val (.int p6), .val (.int (3 : Int32)), .val (.int fu), .val (.int c1), .val (.int c2), .val (.int c3), .val (.int off), .val (.ref b14), .unset, .unset, .val (.int (160 : Int32)), .val (.int (191 : Int32))] []))
        refine own_go (fun t k => XS.iload X19.here hx rfl (hb hby at_217) rfl  k) ?_
        refine own_go (fun t k => XS.iload X19.here hx rfl (hb hby at_219) rfl  k) ?_
        refine own_go (fun t k => XS.iload X19.here hx rfl (hb hby at_221) rfl  k) ?_
        refine own_callS X19 hx hZ (y := (⟨"com/example/templum/templum/validation/Utf8DecodePinLaw", "in", "(III)Z"⟩ : MethodName)) (W := 0) (argsL := [(.int c1), (.int (160 : Int32)), (.int (191 : Int32))]) (rest := []) hown (hw _ (List.mem_of_getElem? (i := 2) rfl)) (hw _ (List.mem_of_getElem? (i := 3) rfl)) (hw _ (List.mem_of_getElem? (i := 4) rfl)) (hw _ (List.mem_of_getElem? (i := 5) rfl)) (by decide) (own_bk (rm_in l Z a0 hw c1 (160 : Int32) (191 : Int32) h19 n0 ) hZ (hw _ (List.mem_of_getElem? (i := 5) rfl)) (hw _ (List.mem_of_getElem? (i := 4) rfl)) (by decide) (by decide)) e19 (g := (mkF m 223 #[.val (.int p1), .val (.int p2), .val (.int p3), .val (.int p4), .val (.int p5), .val (.int p6), .val (.int (3 : Int32)), .val (.int fu), .val (.int c1), .val (.int c2), .val (.int c3), .val (.int off), .val (.ref b14), .unset, .unset, .val (.int (160 : Int32)), .val (.int (191 : Int32))] [(.int (191 : Int32)), (.int (160 : Int32)), (.int c1)])) rfl (by rw [hml]; rfl) (lenOf pd_0 rfl) rfl (by show 2 * 0 + _ ≤ _; exact Nat.le_of_eq rfl) (hb hby at_223) (by decide) (by decide) (fun v33 T33 h33 L33 X33 e33 q33 => ?_)
        obtain ⟨rfl, M33, s33⟩ := q33
        replace e33 : T33.heap = h19 := e33.trans s33
        have N33 := Fr.app N19 M33
        by_cases hc226 : (own_in c1 (160 : Int32) (191 : Int32)) = (0 : Int32)
        · refine own_go (fun t k => XS.ifYes X33.here hx rfl (pc0 := 226) (pc' := 247) rfl (hb hby at_226) rfl ((if0 _ _).trans (teq hc226).1) (by decide) (by decide) k) ?_
          show own_Run p e below Φ (T33.setTop (mkF m 247 #[.val (.int p1), .val (.int p2), .val (.int p3), .val (.int p4), .val (.int p5), .val (.int p6), .val (.int (3 : Int32)), .val (.int fu), .val (.int c1), .val (.int c2), .val (.int c3), .val (.int off), .val (.ref b14), .unset, .unset, .val (.int (160 : Int32)), .val (.int (191 : Int32))] []))
          refine own_go (fun t k => XS.iconst X33.here hx rfl (hb hby at_247) k) ?_
          have F34 : Old Z n0 h19 := (((((O0.ext E14).wr W16 (Nat.le_trans Z0 (Nat.le_of_eq g14.symm))).wr W17 (Nat.le_trans Z0 (Nat.le_of_eq g14.symm))).wr W18 (Nat.le_trans Z0 (Nat.le_of_eq g14.symm))).wr W19 (Nat.le_trans Z0 (Nat.le_of_eq g14.symm)))
          exact J248_20 (0 : Int32) (.val (.int (160 : Int32))) (.val (.int (191 : Int32))) T33 h19 _ _ _ X33 e33 N33 (by decide) (by decide) V19 F34 (by unfold own_ok3; rw [if_pos hc184, if_neg hc203, if_pos hc226]) (One.val rfl) (One.val rfl)
        · refine own_go (fun t k => XS.ifNo X33.here hx rfl (hb hby at_226) rfl ((if0 _ _).trans (feq hc226).1) k) ?_
          refine own_go (fun t k => XS.iload X33.here hx rfl (hb hby at_229) rfl  k) ?_
          refine own_go (fun t k => XS.sipush X33.here hx rfl (hb hby at_231) k) ?_
          refine own_go (fun t k => XS.sipush X33.here hx rfl (hb hby at_234) k) ?_
          refine own_callS X33 hx hZ (y := (⟨"com/example/templum/templum/validation/Utf8DecodePinLaw", "in", "(III)Z"⟩ : MethodName)) (W := 0) (argsL := [(.int c2), (.int (128 : Int32)), (.int (191 : Int32))]) (rest := []) hown (hw _ (List.mem_of_getElem? (i := 2) rfl)) (hw _ (List.mem_of_getElem? (i := 3) rfl)) (hw _ (List.mem_of_getElem? (i := 4) rfl)) (hw _ (List.mem_of_getElem? (i := 5) rfl)) (by decide) (own_bk (rm_in l Z a0 hw c2 (128 : Int32) (191 : Int32) h19 n0 ) hZ (hw _ (List.mem_of_getElem? (i := 5) rfl)) (hw _ (List.mem_of_getElem? (i := 4) rfl)) (by decide) (by decide)) e33 (g := (mkF m 237 #[.val (.int p1), .val (.int p2), .val (.int p3), .val (.int p4), .val (.int p5), .val (.int p6), .val (.int (3 : Int32)), .val (.int fu), .val (.int c1), .val (.int c2), .val (.int c3), .val (.int off), .val (.ref b14), .unset, .unset, .val (.int (160 : Int32)), .val (.int (191 : Int32))] [(.int (191 : Int32)), (.int (128 : Int32)), (.int c2)])) rfl (by rw [hml]; rfl) (lenOf pd_0 rfl) rfl (by show 2 * 0 + _ ≤ _; exact Nat.le_of_eq rfl) (hb hby at_237) (by decide) (by decide) (fun v35 T35 h35 L35 X35 e35 q35 => ?_)
          obtain ⟨rfl, M35, s35⟩ := q35
          replace e35 : T35.heap = h19 := e35.trans s35
          have N35 := Fr.app N33 M35
          show own_Run p e below Φ (T35.setTop (mkF m 240 #[.val (.int p1), .val (.int p2), .val (.int p3), .val (.int p4), .val (.int p5), .val (.int p6), .val (.int (3 : Int32)), .val (.int fu), .val (.int c1), .val (.int c2), .val (.int c3), .val (.int off), .val (.ref b14), .unset, .unset, .val (.int (160 : Int32)), .val (.int (191 : Int32))] [(.int (own_in c2 (128 : Int32) (191 : Int32)))]))
          by_cases hc240 : (own_in c2 (128 : Int32) (191 : Int32)) = (0 : Int32)
          · refine own_go (fun t k => XS.ifYes X35.here hx rfl (pc0 := 240) (pc' := 247) rfl (hb hby at_240) rfl ((if0 _ _).trans (teq hc240).1) (by decide) (by decide) k) ?_
            refine own_go (fun t k => XS.iconst X35.here hx rfl (hb hby at_247) k) ?_
            have F36 : Old Z n0 h19 := (((((O0.ext E14).wr W16 (Nat.le_trans Z0 (Nat.le_of_eq g14.symm))).wr W17 (Nat.le_trans Z0 (Nat.le_of_eq g14.symm))).wr W18 (Nat.le_trans Z0 (Nat.le_of_eq g14.symm))).wr W19 (Nat.le_trans Z0 (Nat.le_of_eq g14.symm)))
            exact J248_20 (0 : Int32) (.val (.int (160 : Int32))) (.val (.int (191 : Int32))) T35 h19 _ _ _ X35 e35 N35 (by decide) (by decide) V19 F36 (by unfold own_ok3; rw [if_pos hc184, if_neg hc203, if_neg hc226, if_pos hc240]) (One.val rfl) (One.val rfl)
          · refine own_go (fun t k => XS.ifNo X35.here hx rfl (hb hby at_240) rfl ((if0 _ _).trans (feq hc240).1) k) ?_
            refine own_go (fun t k => XS.iconst X35.here hx rfl (hb hby at_243) k) ?_
            refine own_go (fun t k => XS.goto X35.here hx rfl (pc0 := 244) (pc' := 248) rfl (hb hby at_244) (by decide) (by decide) k) ?_
            have F37 : Old Z n0 h19 := (((((O0.ext E14).wr W16 (Nat.le_trans Z0 (Nat.le_of_eq g14.symm))).wr W17 (Nat.le_trans Z0 (Nat.le_of_eq g14.symm))).wr W18 (Nat.le_trans Z0 (Nat.le_of_eq g14.symm))).wr W19 (Nat.le_trans Z0 (Nat.le_of_eq g14.symm)))
            exact J248_20 (1 : Int32) (.val (.int (160 : Int32))) (.val (.int (191 : Int32))) T35 h19 _ _ _ X35 e35 N35 (by decide) (by decide) V19 F37 (by unfold own_ok3; rw [if_pos hc184, if_neg hc203, if_neg hc226, if_neg hc240]) (One.val rfl) (One.val rfl)
    · refine own_go (fun t k => XS.icmpYes X19.here hx rfl (pc0 := 184) (pc' := 193) rfl (hb hby at_184) rfl (feq hc184).2 (by decide) (by decide) k) ?_
      refine own_go (fun t k => XS.sipush X19.here hx rfl (hb hby at_193) k) ?_
      show own_Run p e below Φ (T19.setTop (mkF m 196 #[.val (.int p1), .val (.int p2), .val (.int p3), .val (.int p4), .val (.int p5), .val (.int p6), .val (.int (3 : Int32)), .val (.int fu), .val (.int c1), .val (.int c2), .val (.int c3), .val (.int off), .val (.ref b14), .unset, .unset, .unset, .unset] [(.int (128 : Int32))]))
      refine own_go (fun t k => XS.istore X19.here hx rfl (hb hby at_196) rfl (l' := #[.val (.int p1), .val (.int p2), .val (.int p3), .val (.int p4), .val (.int p5), .val (.int p6), .val (.int (3 : Int32)), .val (.int fu), .val (.int c1), .val (.int c2), .val (.int c3), .val (.int off), .val (.ref b14), .unset, .unset, .val (.int (128 : Int32)), .unset]) rfl k) ?_
      refine own_go (fun t k => XS.iload X19.here hx rfl (hb hby at_198) rfl  k) ?_
      refine own_go (fun t k => XS.sipush X19.here hx rfl (hb hby at_200) k) ?_
      by_cases hc203 : fu = (237 : Int32)
      · refine own_go (fun t k => XS.icmpNo X19.here hx rfl (hb hby at_203) rfl (teq hc203).2 k) ?_
        refine own_go (fun t k => XS.sipush X19.here hx rfl (hb hby at_206) k) ?_
        show own_Run p e below Φ (T19.setTop (mkF m 209 #[.val (.int p1), .val (.int p2), .val (.int p3), .val (.int p4), .val (.int p5), .val (.int p6), .val (.int (3 : Int32)), .val (.int fu), .val (.int c1), .val (.int c2), .val (.int c3), .val (.int off), .val (.ref b14), .unset, .unset, .val (.int (128 : Int32)), .unset] [(.int (159 : Int32))]))
        refine own_go (fun t k => XS.goto X19.here hx rfl (pc0 := 209) (pc' := 215) rfl (hb hby at_209) (by decide) (by decide) k) ?_
        refine own_go (fun t k => XS.istore X19.here hx rfl (hb hby at_215) rfl (l' := #[.val (.int p1), .val (.int p2), .val (.int p3), .val (.int p4), .val (.int p5), .val (.int p6), .val (.int (3 : Int32)), .val (.int fu), .val (.int c1), .val (.int c2), .val (.int c3), .val (.int off), .val (.ref b14), .unset, .unset, .val (.int (128 : Int32)), .val (.int (159 : Int32))]) rfl k) ?_
        refine own_go (fun t k => XS.iload X19.here hx rfl (hb hby at_217) rfl  k) ?_
        refine own_go (fun t k => XS.iload X19.here hx rfl (hb hby at_219) rfl  k) ?_
        refine own_go (fun t k => XS.iload X19.here hx rfl (hb hby at_221) rfl  k) ?_
        show own_Run p e below Φ (T19.setTop (mkF m 223 #[.val (.int p1), .val (.int p2), .val (.int p3), .val (.int p4), .val (.int p5), .val (.int p6), .val (.int (3 : Int32)), .val (.int fu), .val (.int c1), .val (.int c2), .val (.int c3), .val (.int off), .val (.ref b14), .unset, .unset, .val (.int (128 : Int32)), .val (.int (159 : Int32))] [(.int (159 : Int32)), (.int (128 : Int32)), (.int c1)]))
        refine own_callS X19 hx hZ (y := (⟨"com/example/templum/templum/validation/Utf8DecodePinLaw", "in", "(III)Z"⟩ : MethodName)) (W := 0) (argsL := [(.int c1), (.int (128 : Int32)), (.int (159 : Int32))]) (rest := []) hown (hw _ (List.mem_of_getElem? (i := 2) rfl)) (hw _ (List.mem_of_getElem? (i := 3) rfl)) (hw _ (List.mem_of_getElem? (i := 4) rfl)) (hw _ (List.mem_of_getElem? (i := 5) rfl)) (by decide) (own_bk (rm_in l Z a0 hw c1 (128 : Int32) (159 : Int32) h19 n0 ) hZ (hw _ (List.mem_of_getElem? (i := 5) rfl)) (hw _ (List.mem_of_getElem? (i := 4) rfl)) (by decide) (by decide)) e19 (g := (mkF m 223 #[.val (.int p1), .val (.int p2), .val (.int p3), .val (.int p4), .val (.int p5), .val (.int p6), .val (.int (3 : Int32)), .val (.int fu), .val (.int c1), .val (.int c2), .val (.int c3), .val (.int off), .val (.ref b14), .unset, .unset, .val (.int (128 : Int32)), .val (.int (159 : Int32))] [(.int (159 : Int32)), (.int (128 : Int32)), (.int c1)])) rfl (by rw [hml]; rfl) (lenOf pd_0 rfl) rfl (by show 2 * 0 + _ ≤ _; exact Nat.le_of_eq rfl) (hb hby at_223) (by decide) (by decide) (fun v38 T38 h38 L38 X38 e38 q38 => ?_)
        obtain ⟨rfl, M38, s38⟩ := q38
        replace e38 : T38.heap = h19 := e38.trans s38
        have N38 := Fr.app N19 M38
        by_cases hc226 : (own_in c1 (128 : Int32) (159 : Int32)) = (0 : Int32)
        · refine own_go (fun t k => XS.ifYes X38.here hx rfl (pc0 := 226) (pc' := 247) rfl (hb hby at_226) rfl ((if0 _ _).trans (teq hc226).1) (by decide) (by decide) k) ?_
          refine own_go (fun t k => XS.iconst X38.here hx rfl (hb hby at_247) k) ?_
          have F39 : Old Z n0 h19 := (((((O0.ext E14).wr W16 (Nat.le_trans Z0 (Nat.le_of_eq g14.symm))).wr W17 (Nat.le_trans Z0 (Nat.le_of_eq g14.symm))).wr W18 (Nat.le_trans Z0 (Nat.le_of_eq g14.symm))).wr W19 (Nat.le_trans Z0 (Nat.le_of_eq g14.symm)))
          exact J248_20 (0 : Int32) (.val (.int (128 : Int32))) (.val (.int (159 : Int32))) T38 h19 _ _ _ X38 e38 N38 (by decide) (by decide) V19 F39 (by unfold own_ok3; rw [if_neg hc184, if_pos hc203, if_pos hc226]) (One.val rfl) (One.val rfl)
        · refine own_go (fun t k => XS.ifNo X38.here hx rfl (hb hby at_226) rfl ((if0 _ _).trans (feq hc226).1) k) ?_
          refine own_go (fun t k => XS.iload X38.here hx rfl (hb hby at_229) rfl  k) ?_
          refine own_go (fun t k => XS.sipush X38.here hx rfl (hb hby at_231) k) ?_
          show own_Run p e below Φ (T38.setTop (mkF m 234 #[.val (.int p1), .val (.int p2), .val (.int p3), .val (.int p4), .val (.int p5), .val (.int p6), .val (.int (3 : Int32)), .val (.int fu), .val (.int c1), .val (.int c2), .val (.int c3), .val (.int off), .val (.ref b14), .unset, .unset, .val (.int (128 : Int32)), .val (.int (159 : Int32))] [(.int (128 : Int32)), (.int c2)]))
          refine own_go (fun t k => XS.sipush X38.here hx rfl (hb hby at_234) k) ?_
          refine own_callS X38 hx hZ (y := (⟨"com/example/templum/templum/validation/Utf8DecodePinLaw", "in", "(III)Z"⟩ : MethodName)) (W := 0) (argsL := [(.int c2), (.int (128 : Int32)), (.int (191 : Int32))]) (rest := []) hown (hw _ (List.mem_of_getElem? (i := 2) rfl)) (hw _ (List.mem_of_getElem? (i := 3) rfl)) (hw _ (List.mem_of_getElem? (i := 4) rfl)) (hw _ (List.mem_of_getElem? (i := 5) rfl)) (by decide) (own_bk (rm_in l Z a0 hw c2 (128 : Int32) (191 : Int32) h19 n0 ) hZ (hw _ (List.mem_of_getElem? (i := 5) rfl)) (hw _ (List.mem_of_getElem? (i := 4) rfl)) (by decide) (by decide)) e38 (g := (mkF m 237 #[.val (.int p1), .val (.int p2), .val (.int p3), .val (.int p4), .val (.int p5), .val (.int p6), .val (.int (3 : Int32)), .val (.int fu), .val (.int c1), .val (.int c2), .val (.int c3), .val (.int off), .val (.ref b14), .unset, .unset, .val (.int (128 : Int32)), .val (.int (159 : Int32))] [(.int (191 : Int32)), (.int (128 : Int32)), (.int c2)])) rfl (by rw [hml]; rfl) (lenOf pd_0 rfl) rfl (by show 2 * 0 + _ ≤ _; exact Nat.le_of_eq rfl) (hb hby at_237) (by decide) (by decide) (fun v40 T40 h40 L40 X40 e40 q40 => ?_)
          obtain ⟨rfl, M40, s40⟩ := q40
          replace e40 : T40.heap = h19 := e40.trans s40
          have N40 := Fr.app N38 M40
          by_cases hc240 : (own_in c2 (128 : Int32) (191 : Int32)) = (0 : Int32)
          · refine own_go (fun t k => XS.ifYes X40.here hx rfl (pc0 := 240) (pc' := 247) rfl (hb hby at_240) rfl ((if0 _ _).trans (teq hc240).1) (by decide) (by decide) k) ?_
            refine own_go (fun t k => XS.iconst X40.here hx rfl (hb hby at_247) k) ?_
            have F41 : Old Z n0 h19 := (((((O0.ext E14).wr W16 (Nat.le_trans Z0 (Nat.le_of_eq g14.symm))).wr W17 (Nat.le_trans Z0 (Nat.le_of_eq g14.symm))).wr W18 (Nat.le_trans Z0 (Nat.le_of_eq g14.symm))).wr W19 (Nat.le_trans Z0 (Nat.le_of_eq g14.symm)))
            exact J248_20 (0 : Int32) (.val (.int (128 : Int32))) (.val (.int (159 : Int32))) T40 h19 _ _ _ X40 e40 N40 (by decide) (by decide) V19 F41 (by unfold own_ok3; rw [if_neg hc184, if_pos hc203, if_neg hc226, if_pos hc240]) (One.val rfl) (One.val rfl)
          · refine own_go (fun t k => XS.ifNo X40.here hx rfl (hb hby at_240) rfl ((if0 _ _).trans (feq hc240).1) k) ?_
            refine own_go (fun t k => XS.iconst X40.here hx rfl (hb hby at_243) k) ?_
            show own_Run p e below Φ (T40.setTop (mkF m 244 #[.val (.int p1), .val (.int p2), .val (.int p3), .val (.int p4), .val (.int p5), .val (.int p6), .val (.int (3 : Int32)), .val (.int fu), .val (.int c1), .val (.int c2), .val (.int c3), .val (.int off), .val (.ref b14), .unset, .unset, .val (.int (128 : Int32)), .val (.int (159 : Int32))] [(.int (1 : Int32))]))
            refine own_go (fun t k => XS.goto X40.here hx rfl (pc0 := 244) (pc' := 248) rfl (hb hby at_244) (by decide) (by decide) k) ?_
            have F42 : Old Z n0 h19 := (((((O0.ext E14).wr W16 (Nat.le_trans Z0 (Nat.le_of_eq g14.symm))).wr W17 (Nat.le_trans Z0 (Nat.le_of_eq g14.symm))).wr W18 (Nat.le_trans Z0 (Nat.le_of_eq g14.symm))).wr W19 (Nat.le_trans Z0 (Nat.le_of_eq g14.symm)))
            exact J248_20 (1 : Int32) (.val (.int (128 : Int32))) (.val (.int (159 : Int32))) T40 h19 _ _ _ X40 e40 N40 (by decide) (by decide) V19 F42 (by unfold own_ok3; rw [if_neg hc184, if_pos hc203, if_neg hc226, if_neg hc240]) (One.val rfl) (One.val rfl)
      · refine own_go (fun t k => XS.icmpYes X19.here hx rfl (pc0 := 203) (pc' := 212) rfl (hb hby at_203) rfl (feq hc203).2 (by decide) (by decide) k) ?_
        refine own_go (fun t k => XS.sipush X19.here hx rfl (hb hby at_212) k) ?_
        refine own_go (fun t k => XS.istore X19.here hx rfl (hb hby at_215) rfl (l' := #[.val (.int p1), .val (.int p2), .val (.int p3), .val (.int p4), .val (.int p5), .val (.int p6), .val (.int (3 : Int32)), .val (.int fu), .val (.int c1), .val (.int c2), .val (.int c3), .val (.int off), .val (.ref b14), .unset, .unset, .val (.int (128 : Int32)), .val (.int (191 : Int32))]) rfl k) ?_
        refine own_go (fun t k => XS.iload X19.here hx rfl (hb hby at_217) rfl  k) ?_
        refine own_go (fun t k => XS.iload X19.here hx rfl (hb hby at_219) rfl  k) ?_
        show own_Run p e below Φ (T19.setTop (mkF m 221 #[.val (.int p1), .val (.int p2), .val (.int p3), .val (.int p4), .val (.int p5), .val (.int p6), .val (.int (3 : Int32)), .val (.int fu), .val (.int c1), .val (.int c2), .val (.int c3), .val (.int off), .val (.ref b14), .unset, .unset, .val (.int (128 : Int32)), .val (.int (191 : Int32))] [(.int (128 : Int32)), (.int c1)]))
        refine own_go (fun t k => XS.iload X19.here hx rfl (hb hby at_221) rfl  k) ?_
        refine own_callS X19 hx hZ (y := (⟨"com/example/templum/templum/validation/Utf8DecodePinLaw", "in", "(III)Z"⟩ : MethodName)) (W := 0) (argsL := [(.int c1), (.int (128 : Int32)), (.int (191 : Int32))]) (rest := []) hown (hw _ (List.mem_of_getElem? (i := 2) rfl)) (hw _ (List.mem_of_getElem? (i := 3) rfl)) (hw _ (List.mem_of_getElem? (i := 4) rfl)) (hw _ (List.mem_of_getElem? (i := 5) rfl)) (by decide) (own_bk (rm_in l Z a0 hw c1 (128 : Int32) (191 : Int32) h19 n0 ) hZ (hw _ (List.mem_of_getElem? (i := 5) rfl)) (hw _ (List.mem_of_getElem? (i := 4) rfl)) (by decide) (by decide)) e19 (g := (mkF m 223 #[.val (.int p1), .val (.int p2), .val (.int p3), .val (.int p4), .val (.int p5), .val (.int p6), .val (.int (3 : Int32)), .val (.int fu), .val (.int c1), .val (.int c2), .val (.int c3), .val (.int off), .val (.ref b14), .unset, .unset, .val (.int (128 : Int32)), .val (.int (191 : Int32))] [(.int (191 : Int32)), (.int (128 : Int32)), (.int c1)])) rfl (by rw [hml]; rfl) (lenOf pd_0 rfl) rfl (by show 2 * 0 + _ ≤ _; exact Nat.le_of_eq rfl) (hb hby at_223) (by decide) (by decide) (fun v43 T43 h43 L43 X43 e43 q43 => ?_)
        obtain ⟨rfl, M43, s43⟩ := q43
        replace e43 : T43.heap = h19 := e43.trans s43
        have N43 := Fr.app N19 M43
        by_cases hc226 : (own_in c1 (128 : Int32) (191 : Int32)) = (0 : Int32)
        · refine own_go (fun t k => XS.ifYes X43.here hx rfl (pc0 := 226) (pc' := 247) rfl (hb hby at_226) rfl ((if0 _ _).trans (teq hc226).1) (by decide) (by decide) k) ?_
          refine own_go (fun t k => XS.iconst X43.here hx rfl (hb hby at_247) k) ?_
          have F44 : Old Z n0 h19 := (((((O0.ext E14).wr W16 (Nat.le_trans Z0 (Nat.le_of_eq g14.symm))).wr W17 (Nat.le_trans Z0 (Nat.le_of_eq g14.symm))).wr W18 (Nat.le_trans Z0 (Nat.le_of_eq g14.symm))).wr W19 (Nat.le_trans Z0 (Nat.le_of_eq g14.symm)))
          exact J248_20 (0 : Int32) (.val (.int (128 : Int32))) (.val (.int (191 : Int32))) T43 h19 _ _ _ X43 e43 N43 (by decide) (by decide) V19 F44 (by unfold own_ok3; rw [if_neg hc184, if_neg hc203, if_pos hc226]) (One.val rfl) (One.val rfl)
        · refine own_go (fun t k => XS.ifNo X43.here hx rfl (hb hby at_226) rfl ((if0 _ _).trans (feq hc226).1) k) ?_
          refine own_go (fun t k => XS.iload X43.here hx rfl (hb hby at_229) rfl  k) ?_
          show own_Run p e below Φ (T43.setTop (mkF m 231 #[.val (.int p1), .val (.int p2), .val (.int p3), .val (.int p4), .val (.int p5), .val (.int p6), .val (.int (3 : Int32)), .val (.int fu), .val (.int c1), .val (.int c2), .val (.int c3), .val (.int off), .val (.ref b14), .unset, .unset, .val (.int (128 : Int32)), .val (.int (191 : Int32))] [(.int c2)]))
          refine own_go (fun t k => XS.sipush X43.here hx rfl (hb hby at_231) k) ?_
          refine own_go (fun t k => XS.sipush X43.here hx rfl (hb hby at_234) k) ?_
          refine own_callS X43 hx hZ (y := (⟨"com/example/templum/templum/validation/Utf8DecodePinLaw", "in", "(III)Z"⟩ : MethodName)) (W := 0) (argsL := [(.int c2), (.int (128 : Int32)), (.int (191 : Int32))]) (rest := []) hown (hw _ (List.mem_of_getElem? (i := 2) rfl)) (hw _ (List.mem_of_getElem? (i := 3) rfl)) (hw _ (List.mem_of_getElem? (i := 4) rfl)) (hw _ (List.mem_of_getElem? (i := 5) rfl)) (by decide) (own_bk (rm_in l Z a0 hw c2 (128 : Int32) (191 : Int32) h19 n0 ) hZ (hw _ (List.mem_of_getElem? (i := 5) rfl)) (hw _ (List.mem_of_getElem? (i := 4) rfl)) (by decide) (by decide)) e43 (g := (mkF m 237 #[.val (.int p1), .val (.int p2), .val (.int p3), .val (.int p4), .val (.int p5), .val (.int p6), .val (.int (3 : Int32)), .val (.int fu), .val (.int c1), .val (.int c2), .val (.int c3), .val (.int off), .val (.ref b14), .unset, .unset, .val (.int (128 : Int32)), .val (.int (191 : Int32))] [(.int (191 : Int32)), (.int (128 : Int32)), (.int c2)])) rfl (by rw [hml]; rfl) (lenOf pd_0 rfl) rfl (by show 2 * 0 + _ ≤ _; exact Nat.le_of_eq rfl) (hb hby at_237) (by decide) (by decide) (fun v45 T45 h45 L45 X45 e45 q45 => ?_)
          obtain ⟨rfl, M45, s45⟩ := q45
          replace e45 : T45.heap = h19 := e45.trans s45
          have N45 := Fr.app N43 M45
          by_cases hc240 : (own_in c2 (128 : Int32) (191 : Int32)) = (0 : Int32)
          · refine own_go (fun t k => XS.ifYes X45.here hx rfl (pc0 := 240) (pc' := 247) rfl (hb hby at_240) rfl ((if0 _ _).trans (teq hc240).1) (by decide) (by decide) k) ?_
            refine own_go (fun t k => XS.iconst X45.here hx rfl (hb hby at_247) k) ?_
            have F46 : Old Z n0 h19 := (((((O0.ext E14).wr W16 (Nat.le_trans Z0 (Nat.le_of_eq g14.symm))).wr W17 (Nat.le_trans Z0 (Nat.le_of_eq g14.symm))).wr W18 (Nat.le_trans Z0 (Nat.le_of_eq g14.symm))).wr W19 (Nat.le_trans Z0 (Nat.le_of_eq g14.symm)))
            exact J248_20 (0 : Int32) (.val (.int (128 : Int32))) (.val (.int (191 : Int32))) T45 h19 _ _ _ X45 e45 N45 (by decide) (by decide) V19 F46 (by unfold own_ok3; rw [if_neg hc184, if_neg hc203, if_neg hc226, if_pos hc240]) (One.val rfl) (One.val rfl)
          · refine own_go (fun t k => XS.ifNo X45.here hx rfl (hb hby at_240) rfl ((if0 _ _).trans (feq hc240).1) k) ?_
            show own_Run p e below Φ (T45.setTop (mkF m 243 #[.val (.int p1), .val (.int p2), .val (.int p3), .val (.int p4), .val (.int p5), .val (.int p6), .val (.int (3 : Int32)), .val (.int fu), .val (.int c1), .val (.int c2), .val (.int c3), .val (.int off), .val (.ref b14), .unset, .unset, .val (.int (128 : Int32)), .val (.int (191 : Int32))] []))
            refine own_go (fun t k => XS.iconst X45.here hx rfl (hb hby at_243) k) ?_
            refine own_go (fun t k => XS.goto X45.here hx rfl (pc0 := 244) (pc' := 248) rfl (hb hby at_244) (by decide) (by decide) k) ?_
            have F47 : Old Z n0 h19 := (((((O0.ext E14).wr W16 (Nat.le_trans Z0 (Nat.le_of_eq g14.symm))).wr W17 (Nat.le_trans Z0 (Nat.le_of_eq g14.symm))).wr W18 (Nat.le_trans Z0 (Nat.le_of_eq g14.symm))).wr W19 (Nat.le_trans Z0 (Nat.le_of_eq g14.symm)))
            exact J248_20 (1 : Int32) (.val (.int (128 : Int32))) (.val (.int (191 : Int32))) T45 h19 _ _ _ X45 e45 N45 (by decide) (by decide) V19 F47 (by unfold own_ok3; rw [if_neg hc184, if_neg hc203, if_neg hc226, if_neg hc240]) (One.val rfl) (One.val rfl)
  · rw [e1]
    show own_Run p e below Φ (s₁.setTop (mkF m 10 #[.val (.int p1), .val (.int p2), .val (.int p3), .val (.int p4), .val (.int p5), .val (.int p6), .val (.int (4 : Int32)), .unset, .unset, .unset, .unset, .unset, .unset, .unset, .unset, .unset, .unset] []))
    refine own_go (fun t k => XS.iload X0.here hx rfl (hb hby at_10) rfl  k) ?_
    refine own_go (fun t k => XS.iconst X0.here hx rfl (hb hby at_12) k) ?_
    refine own_go (fun t k => XS.icmpYes X0.here hx rfl (pc0 := 13) (pc' := 32) rfl (hb hby at_13) rfl (feq (by decide : ¬ ((4 : Int32) = (2 : Int32)))).2 (by decide) (by decide) k) ?_
    refine own_go (fun t k => XS.iload X0.here hx rfl (hb hby at_32) rfl  k) ?_
    show own_Run p e below Φ (s₁.setTop (mkF m 34 #[.val (.int p1), .val (.int p2), .val (.int p3), .val (.int p4), .val (.int p5), .val (.int p6), .val (.int (4 : Int32)), .unset, .unset, .unset, .unset, .unset, .unset, .unset, .unset, .unset, .unset] [(.int (4 : Int32))]))
    refine own_go (fun t k => XS.iconst X0.here hx rfl (hb hby at_34) k) ?_
    refine own_go (fun t k => XS.icmpYes X0.here hx rfl (pc0 := 35) (pc' := 51) rfl (hb hby at_35) rfl (feq (by decide : ¬ ((4 : Int32) = (3 : Int32)))).2 (by decide) (by decide) k) ?_
    refine own_go (fun t k => XS.sipush X0.here hx rfl (hb hby at_51) k) ?_
    refine own_go (fun t k => XS.iloadN X0.here hx rfl (hb hby at_54) rfl  k) ?_
    refine own_go (X0.ldcInt hx hown (mvT hZ (hw _ (List.mem_of_getElem? (i := 0) rfl))) (g := (mkF m 55 #[.val (.int p1), .val (.int p2), .val (.int p3), .val (.int p4), .val (.int p5), .val (.int p6), .val (.int (4 : Int32)), .unset, .unset, .unset, .unset, .unset, .unset, .unset, .unset, .unset, .unset] [(.int p2), (.int (240 : Int32))])) rfl (hb hby at_55)) ?_
    show own_Run p e below Φ (s₁.setTop (mkF m 57 #[.val (.int p1), .val (.int p2), .val (.int p3), .val (.int p4), .val (.int p5), .val (.int p6), .val (.int (4 : Int32)), .unset, .unset, .unset, .unset, .unset, .unset, .unset, .unset, .unset, .unset] [(.int (2147483647 : Int32)), (.int p2), (.int (240 : Int32))]))
    refine own_go (fun t k => XS.iand X0.here hx rfl (hb hby at_57) rfl k) ?_
    refine own_go (fun t k => XS.iconst X0.here hx rfl (hb hby at_58) k) ?_
    refine own_go (fun t k => Jvm.RoadKit.iremM X0 hx rfl (hb hby at_59) rfl (by decide) k) ?_
    refine own_go (fun t k => XS.iadd X0.here hx rfl (hb hby at_60) rfl k) ?_
    refine own_go (fun t k => XS.istore X0.here hx rfl (hb hby at_61) rfl (l' := #[.val (.int p1), .val (.int p2), .val (.int p3), .val (.int p4), .val (.int p5), .val (.int p6), .val (.int (4 : Int32)), .val (.int ((240 : Int32) + ((p2 &&& (2147483647 : Int32)) % (5 : Int32)))), .unset, .unset, .unset, .unset, .unset, .unset, .unset, .unset, .unset]) rfl k) ?_
    show own_Run p e below Φ (s₁.setTop (mkF m 63 #[.val (.int p1), .val (.int p2), .val (.int p3), .val (.int p4), .val (.int p5), .val (.int p6), .val (.int (4 : Int32)), .val (.int ((240 : Int32) + ((p2 &&& (2147483647 : Int32)) % (5 : Int32)))), .unset, .unset, .unset, .unset, .unset, .unset, .unset, .unset, .unset] []))
    refine own_go (fun t k => XS.iloadN X0.here hx rfl (hb hby at_63) rfl  k) ?_
    refine own_go (fun t k => XS.sipush X0.here hx rfl (hb hby at_64) k) ?_
    refine own_go (fun t k => XS.iand X0.here hx rfl (hb hby at_67) rfl k) ?_
    refine own_go (fun t k => XS.istore X0.here hx rfl (hb hby at_68) rfl (l' := #[.val (.int p1), .val (.int p2), .val (.int p3), .val (.int p4), .val (.int p5), .val (.int p6), .val (.int (4 : Int32)), .val (.int ((240 : Int32) + ((p2 &&& (2147483647 : Int32)) % (5 : Int32)))), .val (.int (p3 &&& (255 : Int32))), .unset, .unset, .unset, .unset, .unset, .unset, .unset, .unset]) rfl k) ?_
    refine own_go (fun t k => XS.iloadN X0.here hx rfl (hb hby at_70) rfl  k) ?_
    show own_Run p e below Φ (s₁.setTop (mkF m 71 #[.val (.int p1), .val (.int p2), .val (.int p3), .val (.int p4), .val (.int p5), .val (.int p6), .val (.int (4 : Int32)), .val (.int ((240 : Int32) + ((p2 &&& (2147483647 : Int32)) % (5 : Int32)))), .val (.int (p3 &&& (255 : Int32))), .unset, .unset, .unset, .unset, .unset, .unset, .unset, .unset] [(.int p4)]))
    refine own_go (fun t k => XS.sipush X0.here hx rfl (hb hby at_71) k) ?_
    refine own_go (fun t k => XS.iand X0.here hx rfl (hb hby at_74) rfl k) ?_
    refine own_go (fun t k => XS.istore X0.here hx rfl (hb hby at_75) rfl (l' := #[.val (.int p1), .val (.int p2), .val (.int p3), .val (.int p4), .val (.int p5), .val (.int p6), .val (.int (4 : Int32)), .val (.int ((240 : Int32) + ((p2 &&& (2147483647 : Int32)) % (5 : Int32)))), .val (.int (p3 &&& (255 : Int32))), .val (.int (p4 &&& (255 : Int32))), .unset, .unset, .unset, .unset, .unset, .unset, .unset]) rfl k) ?_
    refine own_go (fun t k => XS.iload X0.here hx rfl (hb hby at_77) rfl  k) ?_
    refine own_go (fun t k => XS.sipush X0.here hx rfl (hb hby at_79) k) ?_
    show own_Run p e below Φ (s₁.setTop (mkF m 82 #[.val (.int p1), .val (.int p2), .val (.int p3), .val (.int p4), .val (.int p5), .val (.int p6), .val (.int (4 : Int32)), .val (.int ((240 : Int32) + ((p2 &&& (2147483647 : Int32)) % (5 : Int32)))), .val (.int (p3 &&& (255 : Int32))), .val (.int (p4 &&& (255 : Int32))), .unset, .unset, .unset, .unset, .unset, .unset, .unset] [(.int (255 : Int32)), (.int p5)]))
    refine own_go (fun t k => XS.iand X0.here hx rfl (hb hby at_82) rfl k) ?_
    refine own_go (fun t k => XS.istore X0.here hx rfl (hb hby at_83) rfl (l' := #[.val (.int p1), .val (.int p2), .val (.int p3), .val (.int p4), .val (.int p5), .val (.int p6), .val (.int (4 : Int32)), .val (.int ((240 : Int32) + ((p2 &&& (2147483647 : Int32)) % (5 : Int32)))), .val (.int (p3 &&& (255 : Int32))), .val (.int (p4 &&& (255 : Int32))), .val (.int (p5 &&& (255 : Int32))), .unset, .unset, .unset, .unset, .unset, .unset]) rfl k) ?_
    refine own_go (fun t k => XS.iload X0.here hx rfl (hb hby at_85) rfl  k) ?_
    refine own_go (fun t k => XS.iconst X0.here hx rfl (hb hby at_87) k) ?_
    refine own_go (fun t k => XS.iand X0.here hx rfl (hb hby at_88) rfl k) ?_
    show own_Run p e below Φ (s₁.setTop (mkF m 89 #[.val (.int p1), .val (.int p2), .val (.int p3), .val (.int p4), .val (.int p5), .val (.int p6), .val (.int (4 : Int32)), .val (.int ((240 : Int32) + ((p2 &&& (2147483647 : Int32)) % (5 : Int32)))), .val (.int (p3 &&& (255 : Int32))), .val (.int (p4 &&& (255 : Int32))), .val (.int (p5 &&& (255 : Int32))), .unset, .unset, .unset, .unset, .unset, .unset] [(.int (p6 &&& (3 : Int32)))]))
    refine own_go (fun t k => XS.istore X0.here hx rfl (hb hby at_89) rfl (l' := #[.val (.int p1), .val (.int p2), .val (.int p3), .val (.int p4), .val (.int p5), .val (.int p6), .val (.int (4 : Int32)), .val (.int ((240 : Int32) + ((p2 &&& (2147483647 : Int32)) % (5 : Int32)))), .val (.int (p3 &&& (255 : Int32))), .val (.int (p4 &&& (255 : Int32))), .val (.int (p5 &&& (255 : Int32))), .val (.int (p6 &&& (3 : Int32))), .unset, .unset, .unset, .unset, .unset]) rfl k) ?_
    show own_Run p e below Φ (s₁.setTop (mkF m 91 #[.val (.int p1), .val (.int p2), .val (.int p3), .val (.int p4), .val (.int p5), .val (.int p6), .val (.int (4 : Int32)), .val (.int ((240 : Int32) + ((p2 &&& (2147483647 : Int32)) % (5 : Int32)))), .val (.int (p3 &&& (255 : Int32))), .val (.int (p4 &&& (255 : Int32))), .val (.int (p5 &&& (255 : Int32))), .val (.int (p6 &&& (3 : Int32))), .unset, .unset, .unset, .unset, .unset] []))
    have hf := own_f4 p2
    generalize efu : ((240 : Int32) + ((p2 &&& (2147483647 : Int32)) % (5 : Int32))) = fu at hf ⊢
    have hc1 := own_255 p3
    generalize ec1 : (p3 &&& (255 : Int32)) = c1 at hc1 ⊢
    have hc2 := own_255 p4
    generalize ec2 : (p4 &&& (255 : Int32)) = c2 at hc2 ⊢
    have hc3 := own_255 p5
    generalize ec3 : (p5 &&& (255 : Int32)) = c3 at hc3 ⊢
    have hoff := own_and3 p6
    generalize eoff : (p6 &&& (3 : Int32)) = off at hoff ⊢
    show own_Run p e below Φ (s₁.setTop (mkF m 91 #[.val (.int p1), .val (.int p2), .val (.int p3), .val (.int p4), .val (.int p5), .val (.int p6), .val (.int (4 : Int32)), .val (.int fu), .val (.int c1), .val (.int c2), .val (.int c3), .val (.int off), .unset, .unset, .unset, .unset, .unset] []))
    refine own_go (fun t k => XS.bipush X0.here hx rfl (hb hby at_91) k) ?_
    refine own_newP X0 hx hZ (hw _ (List.mem_of_getElem? (i := 1) rfl)) e0 (g := (mkF m 93 #[.val (.int p1), .val (.int p2), .val (.int p3), .val (.int p4), .val (.int p5), .val (.int p6), .val (.int (4 : Int32)), .val (.int fu), .val (.int c1), .val (.int c2), .val (.int c3), .val (.int off), .unset, .unset, .unset, .unset, .unset] [(.int (8 : Int32))])) rfl (hb hby at_93) rfl (by decide) 8 (by decide) (by decide) (by decide) (by decide) 8 (fun T48 h48 k48 b48 X48 e48 E48 g48 V48 => ?_)
    replace V48 : Arv Z h48 b48 k48 .byte (8 : Int32) [(.int (0 : Int32)), (.int (0 : Int32)), (.int (0 : Int32)), (.int (0 : Int32)), (.int (0 : Int32)), (.int (0 : Int32)), (.int (0 : Int32)), (.int (0 : Int32))] (.int (0 : Int32)) := V48
    refine own_go (fun t k => XS.astore X48.here hx rfl (hb hby at_95) rfl rfl (l' := #[.val (.int p1), .val (.int p2), .val (.int p3), .val (.int p4), .val (.int p5), .val (.int p6), .val (.int (4 : Int32)), .val (.int fu), .val (.int c1), .val (.int c2), .val (.int c3), .val (.int off), .val (.ref b48), .unset, .unset, .unset, .unset]) rfl k) ?_
    show own_Run p e below Φ (T48.setTop (mkF m 97 #[.val (.int p1), .val (.int p2), .val (.int p3), .val (.int p4), .val (.int p5), .val (.int p6), .val (.int (4 : Int32)), .val (.int fu), .val (.int c1), .val (.int c2), .val (.int c3), .val (.int off), .val (.ref b48), .unset, .unset, .unset, .unset] []))
    refine own_go (fun t k => XS.aload X48.here hx rfl (hb hby at_97) rfl rfl  k) ?_
    refine own_go (fun t k => XS.iload X48.here hx rfl (hb hby at_99) rfl  k) ?_
    refine own_go (fun t k => XS.iload X48.here hx rfl (hb hby at_101) rfl  k) ?_
    refine own_go (fun t k => XS.i2b X48.here hx rfl (hb hby at_103) rfl k) ?_
    refine own_bastore X48 hx hZ e48 V48 (j := off) (own_o0 hoff) off.toNatClampNeg rfl (Nat.lt_of_lt_of_eq (own_i0 hoff) (own_l0 _).symm) (g := (mkF m 104 #[.val (.int p1), .val (.int p2), .val (.int p3), .val (.int p4), .val (.int p5), .val (.int p6), .val (.int (4 : Int32)), .val (.int fu), .val (.int c1), .val (.int c2), .val (.int c3), .val (.int off), .val (.ref b48), .unset, .unset, .unset, .unset] [(.int (fu.toInt8.toInt32)), (.int off), (.ref b48)])) rfl rfl (hb hby at_104) (fun T50 h50 X50 e50 W50 V50 => ?_)
    replace V50 : Arv Z h50 b48 k48 .byte (8 : Int32) (own_v1 (0 : Int32) off (fu.toInt8.toInt32)) (.int (0 : Int32)) := (by rw [own_b8] at V50; exact V50)
    have N50 := Fr.snoc X50 N0 (Nat.le_trans Z0 (Nat.le_of_eq g48.symm))
    show own_Run p e below Φ (T50.setTop (mkF m 105 #[.val (.int p1), .val (.int p2), .val (.int p3), .val (.int p4), .val (.int p5), .val (.int p6), .val (.int (4 : Int32)), .val (.int fu), .val (.int c1), .val (.int c2), .val (.int c3), .val (.int off), .val (.ref b48), .unset, .unset, .unset, .unset] []))
    refine own_go (fun t k => XS.aload X50.here hx rfl (hb hby at_105) rfl rfl  k) ?_
    refine own_go (fun t k => XS.iload X50.here hx rfl (hb hby at_107) rfl  k) ?_
    refine own_go (fun t k => XS.iconst X50.here hx rfl (hb hby at_109) k) ?_
    refine own_go (fun t k => XS.iadd X50.here hx rfl (hb hby at_110) rfl k) ?_
    refine own_go (fun t k => XS.iload X50.here hx rfl (hb hby at_111) rfl  k) ?_
    show own_Run p e below Φ (T50.setTop (mkF m 113 #[.val (.int p1), .val (.int p2), .val (.int p3), .val (.int p4), .val (.int p5), .val (.int p6), .val (.int (4 : Int32)), .val (.int fu), .val (.int c1), .val (.int c2), .val (.int c3), .val (.int off), .val (.ref b48), .unset, .unset, .unset, .unset] [(.int c1), (.int (off + (1 : Int32))), (.ref b48)]))
    refine own_go (fun t k => XS.i2b X50.here hx rfl (hb hby at_113) rfl k) ?_
    refine own_bastore X50 hx hZ e50 V50 (j := (off + (1 : Int32))) (own_o1 hoff) (off + (1 : Int32)).toNatClampNeg rfl (Nat.lt_of_lt_of_eq (own_i1 hoff) (own_l1 _ _ _).symm) (g := (mkF m 114 #[.val (.int p1), .val (.int p2), .val (.int p3), .val (.int p4), .val (.int p5), .val (.int p6), .val (.int (4 : Int32)), .val (.int fu), .val (.int c1), .val (.int c2), .val (.int c3), .val (.int off), .val (.ref b48), .unset, .unset, .unset, .unset] [(.int (c1.toInt8.toInt32)), (.int (off + (1 : Int32))), (.ref b48)])) rfl rfl (hb hby at_114) (fun T51 h51 X51 e51 W51 V51 => ?_)
    replace V51 : Arv Z h51 b48 k48 .byte (8 : Int32) (own_v2 (0 : Int32) off (fu.toInt8.toInt32) (c1.toInt8.toInt32)) (.int (0 : Int32)) := (by rw [own_b8] at V51; exact V51)
    have N51 := Fr.snoc X51 N50 (Nat.le_trans Z0 (Nat.le_of_eq g48.symm))
    refine own_go (fun t k => XS.aload X51.here hx rfl (hb hby at_115) rfl rfl  k) ?_
    refine own_go (fun t k => XS.iload X51.here hx rfl (hb hby at_117) rfl  k) ?_
    refine own_go (fun t k => XS.iconst X51.here hx rfl (hb hby at_119) k) ?_
    show own_Run p e below Φ (T51.setTop (mkF m 120 #[.val (.int p1), .val (.int p2), .val (.int p3), .val (.int p4), .val (.int p5), .val (.int p6), .val (.int (4 : Int32)), .val (.int fu), .val (.int c1), .val (.int c2), .val (.int c3), .val (.int off), .val (.ref b48), .unset, .unset, .unset, .unset] [(.int (2 : Int32)), (.int off), (.ref b48)]))
    refine own_go (fun t k => XS.iadd X51.here hx rfl (hb hby at_120) rfl k) ?_
    refine own_go (fun t k => XS.iload X51.here hx rfl (hb hby at_121) rfl  k) ?_
    refine own_go (fun t k => XS.i2b X51.here hx rfl (hb hby at_123) rfl k) ?_
    refine own_bastore X51 hx hZ e51 V51 (j := (off + (2 : Int32))) (own_o2 hoff) (off + (2 : Int32)).toNatClampNeg rfl (Nat.lt_of_lt_of_eq (own_i2 hoff) (own_l2 _ _ _ _).symm) (g := (mkF m 124 #[.val (.int p1), .val (.int p2), .val (.int p3), .val (.int p4), .val (.int p5), .val (.int p6), .val (.int (4 : Int32)), .val (.int fu), .val (.int c1), .val (.int c2), .val (.int c3), .val (.int off), .val (.ref b48), .unset, .unset, .unset, .unset] [(.int (c2.toInt8.toInt32)), (.int (off + (2 : Int32))), (.ref b48)])) rfl rfl (hb hby at_124) (fun T52 h52 X52 e52 W52 V52 => ?_)
    replace V52 : Arv Z h52 b48 k48 .byte (8 : Int32) (own_v3 (0 : Int32) off (fu.toInt8.toInt32) (c1.toInt8.toInt32) (c2.toInt8.toInt32)) (.int (0 : Int32)) := (by rw [own_b8] at V52; exact V52)
    have N52 := Fr.snoc X52 N51 (Nat.le_trans Z0 (Nat.le_of_eq g48.symm))
    refine own_go (fun t k => XS.aload X52.here hx rfl (hb hby at_125) rfl rfl  k) ?_
    show own_Run p e below Φ (T52.setTop (mkF m 127 #[.val (.int p1), .val (.int p2), .val (.int p3), .val (.int p4), .val (.int p5), .val (.int p6), .val (.int (4 : Int32)), .val (.int fu), .val (.int c1), .val (.int c2), .val (.int c3), .val (.int off), .val (.ref b48), .unset, .unset, .unset, .unset] [(.ref b48)]))
    refine own_go (fun t k => XS.iload X52.here hx rfl (hb hby at_127) rfl  k) ?_
    refine own_go (fun t k => XS.iconst X52.here hx rfl (hb hby at_129) k) ?_
    refine own_go (fun t k => XS.iadd X52.here hx rfl (hb hby at_130) rfl k) ?_
    refine own_go (fun t k => XS.iload X52.here hx rfl (hb hby at_131) rfl  k) ?_
    refine own_go (fun t k => XS.i2b X52.here hx rfl (hb hby at_133) rfl k) ?_
    show own_Run p e below Φ (T52.setTop (mkF m 134 #[.val (.int p1), .val (.int p2), .val (.int p3), .val (.int p4), .val (.int p5), .val (.int p6), .val (.int (4 : Int32)), .val (.int fu), .val (.int c1), .val (.int c2), .val (.int c3), .val (.int off), .val (.ref b48), .unset, .unset, .unset, .unset] [(.int (c3.toInt8.toInt32)), (.int (off + (3 : Int32))), (.ref b48)]))
    refine own_bastore X52 hx hZ e52 V52 (j := (off + (3 : Int32))) (own_o3 hoff) (off + (3 : Int32)).toNatClampNeg rfl (Nat.lt_of_lt_of_eq (own_i3 hoff) (own_l3 _ _ _ _ _).symm) (g := (mkF m 134 #[.val (.int p1), .val (.int p2), .val (.int p3), .val (.int p4), .val (.int p5), .val (.int p6), .val (.int (4 : Int32)), .val (.int fu), .val (.int c1), .val (.int c2), .val (.int c3), .val (.int off), .val (.ref b48), .unset, .unset, .unset, .unset] [(.int (c3.toInt8.toInt32)), (.int (off + (3 : Int32))), (.ref b48)])) rfl rfl (hb hby at_134) (fun T53 h53 X53 e53 W53 V53 => ?_)
    replace V53 : Arv Z h53 b48 k48 .byte (8 : Int32) (own_v4 (0 : Int32) off (fu.toInt8.toInt32) (c1.toInt8.toInt32) (c2.toInt8.toInt32) (c3.toInt8.toInt32)) (.int (0 : Int32)) := (by rw [own_b8] at V53; exact V53)
    have N53 := Fr.snoc X53 N52 (Nat.le_trans Z0 (Nat.le_of_eq g48.symm))
    refine own_go (fun t k => XS.iload X53.here hx rfl (hb hby at_135) rfl  k) ?_
    refine own_go (fun t k => XS.iconst X53.here hx rfl (hb hby at_137) k) ?_
    refine own_go (fun t k => XS.icmpYes X53.here hx rfl (pc0 := 138) (pc' := 173) rfl (hb hby at_138) rfl (feq (by decide : ¬ ((4 : Int32) = (2 : Int32)))).2 (by decide) (by decide) k) ?_
    refine own_go (fun t k => XS.iload X53.here hx rfl (hb hby at_173) rfl  k) ?_
    show own_Run p e below Φ (T53.setTop (mkF m 175 #[.val (.int p1), .val (.int p2), .val (.int p3), .val (.int p4), .val (.int p5), .val (.int p6), .val (.int (4 : Int32)), .val (.int fu), .val (.int c1), .val (.int c2), .val (.int c3), .val (.int off), .val (.ref b48), .unset, .unset, .unset, .unset] [(.int (4 : Int32))]))
    refine own_go (fun t k => XS.iconst X53.here hx rfl (hb hby at_175) k) ?_
    refine own_go (fun t k => XS.icmpYes X53.here hx rfl (pc0 := 176) (pc' := 278) rfl (hb hby at_176) rfl (feq (by decide : ¬ ((4 : Int32) = (3 : Int32)))).2 (by decide) (by decide) k) ?_
    show own_Run p e below Φ (T53.setTop (mkF m 278 #[.val (.int p1), .val (.int p2), .val (.int p3), .val (.int p4), .val (.int p5), .val (.int p6), .val (.int (4 : Int32)), .val (.int fu), .val (.int c1), .val (.int c2), .val (.int c3), .val (.int off), .val (.ref b48), .unset, .unset, .unset, .unset] []))
    have J361_54 : ∀ (ok : Int32) (s15 : Slot) (s16 : Slot) (T55 : State) (h55 : Heap) (l55 : List Loc) (c55 z55 : Nat), (Stand p l e room_1 s m #[(.int p1), (.int p2), (.int p3), (.int p4), (.int p5), (.int p6)] below meth c T55 l55 c55 z55) → (T55.heap = h55) → (Fr n0 l55) → (c55 ≤ 1) → (z55 ≤ 8) → (Arv Z h55 b48 k48 .byte (8 : Int32) (own_v4 (0 : Int32) off (fu.toInt8.toInt32) (c1.toInt8.toInt32) (c2.toInt8.toInt32) (c3.toInt8.toInt32)) (.int (0 : Int32))) → (Old Z n0 h55) → (ok = own_ok4 fu c1 c2 c3) → (One s15) → (One s16) → own_Run p e below Φ (T55.setTop (mkF m 361 #[.val (.int p1), .val (.int p2), .val (.int p3), .val (.int p4), .val (.int p5), .val (.int p6), .val (.int (4 : Int32)), .val (.int fu), .val (.int c1), .val (.int c2), .val (.int c3), .val (.int off), .val (.ref b48), .unset, .unset, s15, s16] [(.int ok)])) := by
      intro ok s15 s16 T55 h55 l55 c55 z55 X55 e55 N55 hc55 hs55 F56 F57 hok o15 o16
      show own_Run p e below Φ (T55.setTop (mkF m 361 #[.val (.int p1), .val (.int p2), .val (.int p3), .val (.int p4), .val (.int p5), .val (.int p6), .val (.int (4 : Int32)), .val (.int fu), .val (.int c1), .val (.int c2), .val (.int c3), .val (.int off), .val (.ref b48), .unset, .unset, s15, s16] [(.int ok)]))
      refine own_go (fun t k => XS.istore X55.here hx rfl (hb hby at_361) rfl (l' := #[.val (.int p1), .val (.int p2), .val (.int p3), .val (.int p4), .val (.int p5), .val (.int p6), .val (.int (4 : Int32)), .val (.int fu), .val (.int c1), .val (.int c2), .val (.int c3), .val (.int off), .val (.ref b48), .val (.int ok), .unset, s15, s16]) rfl k) ?_
      refine own_go (fun t k => XS.iload X55.here hx rfl (hb hby at_363) rfl  k) ?_
      refine own_go (fun t k => XS.bipush X55.here hx rfl (hb hby at_365) k) ?_
      refine own_go (fun t k => XS.iand X55.here hx rfl (hb hby at_367) rfl k) ?_
      refine own_go (fun t k => XS.bipush X55.here hx rfl (hb hby at_368) k) ?_
      show own_Run p e below Φ (T55.setTop (mkF m 370 #[.val (.int p1), .val (.int p2), .val (.int p3), .val (.int p4), .val (.int p5), .val (.int p6), .val (.int (4 : Int32)), .val (.int fu), .val (.int c1), .val (.int c2), .val (.int c3), .val (.int off), .val (.ref b48), .val (.int ok), .unset, s15, s16] [(.int (18 : Int32)), (.int (fu &&& (7 : Int32)))]))
      refine own_go (fun t k => XS.ishl X55.here hx rfl (hb hby at_370) rfl k) ?_
      refine own_go (fun t k => XS.iload X55.here hx rfl (hb hby at_371) rfl  k) ?_
      refine own_go (fun t k => XS.bipush X55.here hx rfl (hb hby at_373) k) ?_
      refine own_go (fun t k => XS.iand X55.here hx rfl (hb hby at_375) rfl k) ?_
      refine own_go (fun t k => XS.bipush X55.here hx rfl (hb hby at_376) k) ?_
      show own_Run p e below Φ (T55.setTop (mkF m 378 #[.val (.int p1), .val (.int p2), .val (.int p3), .val (.int p4), .val (.int p5), .val (.int p6), .val (.int (4 : Int32)), .val (.int fu), .val (.int c1), .val (.int c2), .val (.int c3), .val (.int off), .val (.ref b48), .val (.int ok), .unset, s15, s16] [(.int (12 : Int32)), (.int (c1 &&& (63 : Int32))), (.int ((fu &&& (7 : Int32)) <<< ((18 : Int32) &&& 31)))]))
      refine own_go (fun t k => XS.ishl X55.here hx rfl (hb hby at_378) rfl k) ?_
      refine own_go (fun t k => XS.ior X55.here hx rfl (hb hby at_379) rfl k) ?_
      refine own_go (fun t k => XS.iload X55.here hx rfl (hb hby at_380) rfl  k) ?_
      refine own_go (fun t k => XS.bipush X55.here hx rfl (hb hby at_382) k) ?_
      refine own_go (fun t k => XS.iand X55.here hx rfl (hb hby at_384) rfl k) ?_
      show own_Run p e below Φ (T55.setTop (mkF m 385 #[.val (.int p1), .val (.int p2), .val (.int p3), .val (.int p4), .val (.int p5), .val (.int p6), .val (.int (4 : Int32)), .val (.int fu), .val (.int c1), .val (.int c2), .val (.int c3), .val (.int off), .val (.ref b48), .val (.int ok), .unset, s15, s16] [(.int (c2 &&& (63 : Int32))), (.int (((fu &&& (7 : Int32)) <<< ((18 : Int32) &&& 31)) ||| ((c1 &&& (63 : Int32)) <<< ((12 : Int32) &&& 31))))]))
      refine own_go (fun t k => XS.bipush X55.here hx rfl (hb hby at_385) k) ?_
      refine own_go (fun t k => XS.ishl X55.here hx rfl (hb hby at_387) rfl k) ?_
      refine own_go (fun t k => XS.ior X55.here hx rfl (hb hby at_388) rfl k) ?_
      refine own_go (fun t k => XS.iload X55.here hx rfl (hb hby at_389) rfl  k) ?_
      refine own_go (fun t k => XS.bipush X55.here hx rfl (hb hby at_391) k) ?_
      show own_Run p e below Φ (T55.setTop (mkF m 393 #[.val (.int p1), .val (.int p2), .val (.int p3), .val (.int p4), .val (.int p5), .val (.int p6), .val (.int (4 : Int32)), .val (.int fu), .val (.int c1), .val (.int c2), .val (.int c3), .val (.int off), .val (.ref b48), .val (.int ok), .unset, s15, s16] [(.int (63 : Int32)), (.int c3), (.int ((((fu &&& (7 : Int32)) <<< ((18 : Int32) &&& 31)) ||| ((c1 &&& (63 : Int32)) <<< ((12 : Int32) &&& 31))) ||| ((c2 &&& (63 : Int32)) <<< ((6 : Int32) &&& 31))))]))
      refine own_go (fun t k => XS.iand X55.here hx rfl (hb hby at_393) rfl k) ?_
      refine own_go (fun t k => XS.ior X55.here hx rfl (hb hby at_394) rfl k) ?_
      refine own_go (fun t k => XS.istore X55.here hx rfl (hb hby at_395) rfl (l' := #[.val (.int p1), .val (.int p2), .val (.int p3), .val (.int p4), .val (.int p5), .val (.int p6), .val (.int (4 : Int32)), .val (.int fu), .val (.int c1), .val (.int c2), .val (.int c3), .val (.int off), .val (.ref b48), .val (.int ok), .val (.int (((((fu &&& (7 : Int32)) <<< ((18 : Int32) &&& 31)) ||| ((c1 &&& (63 : Int32)) <<< ((12 : Int32) &&& 31))) ||| ((c2 &&& (63 : Int32)) <<< ((6 : Int32) &&& 31))) ||| (c3 &&& (63 : Int32)))), s15, s16]) rfl k) ?_
      refine own_go (fun t k => XS.iload X55.here hx rfl (hb hby at_397) rfl  k) ?_
      by_cases hc399 : ok = (0 : Int32)
      · refine own_go (fun t k => XS.ifYes X55.here hx rfl (pc0 := 399) (pc' := 407) rfl (hb hby at_399) rfl ((if0 _ _).trans (teq hc399).1) (by decide) (by decide) k) ?_
        show own_Run p e below Φ (T55.setTop (mkF m 407 #[.val (.int p1), .val (.int p2), .val (.int p3), .val (.int p4), .val (.int p5), .val (.int p6), .val (.int (4 : Int32)), .val (.int fu), .val (.int c1), .val (.int c2), .val (.int c3), .val (.int off), .val (.ref b48), .val (.int ok), .val (.int (((((fu &&& (7 : Int32)) <<< ((18 : Int32) &&& 31)) ||| ((c1 &&& (63 : Int32)) <<< ((12 : Int32) &&& 31))) ||| ((c2 &&& (63 : Int32)) <<< ((6 : Int32) &&& 31))) ||| (c3 &&& (63 : Int32)))), s15, s16] []))
        refine own_go (fun t k => XS.iconst X55.here hx rfl (hb hby at_407) k) ?_
        refine own_go (fun t k => XS.istore X55.here hx rfl (hb hby at_408) rfl (l' := #[.val (.int p1), .val (.int p2), .val (.int p3), .val (.int p4), .val (.int p5), .val (.int p6), .val (.int (4 : Int32)), .val (.int fu), .val (.int c1), .val (.int c2), .val (.int c3), .val (.int off), .val (.ref b48), .val (.int ok), .val (.int (((((fu &&& (7 : Int32)) <<< ((18 : Int32) &&& 31)) ||| ((c1 &&& (63 : Int32)) <<< ((12 : Int32) &&& 31))) ||| ((c2 &&& (63 : Int32)) <<< ((6 : Int32) &&& 31))) ||| (c3 &&& (63 : Int32)))), .val (.int (-1 : Int32)), s16]) (own_st15 o15) k) ?_
        refine own_go (fun t k => XS.aload X55.here hx rfl (hb hby at_410) rfl rfl  k) ?_
        refine own_go (fun t k => XS.iload X55.here hx rfl (hb hby at_412) rfl  k) ?_
        refine own_go (fun t k => XS.iload X55.here hx rfl (hb hby at_414) rfl  k) ?_
        show own_Run p e below Φ (T55.setTop (mkF m 416 #[.val (.int p1), .val (.int p2), .val (.int p3), .val (.int p4), .val (.int p5), .val (.int p6), .val (.int (4 : Int32)), .val (.int fu), .val (.int c1), .val (.int c2), .val (.int c3), .val (.int off), .val (.ref b48), .val (.int ok), .val (.int (((((fu &&& (7 : Int32)) <<< ((18 : Int32) &&& 31)) ||| ((c1 &&& (63 : Int32)) <<< ((12 : Int32) &&& 31))) ||| ((c2 &&& (63 : Int32)) <<< ((6 : Int32) &&& 31))) ||| (c3 &&& (63 : Int32)))), .val (.int (-1 : Int32)), s16] [(.int (4 : Int32)), (.int off), (.ref b48)]))
        have F58 : Arv Z h55 w1 kw .int (5 : Int32) [(.int (0 : Int32)), (.int (0 : Int32)), (.int (128 : Int32)), (.int (2048 : Int32)), (.int (65536 : Int32))] (.int (0 : Int32)) := V0.ext F57.2
        refine own_callS X55 hx hZ (y := (⟨"com/example/templum/templum/validation/Utf8", "decode", "([BII)I"⟩ : MethodName)) (W := 0) (argsL := [(.ref b48), (.int off), (.int (4 : Int32))]) (rest := []) hown (hw _ (List.mem_of_getElem? (i := 6) rfl)) (hw _ (List.mem_of_getElem? (i := 7) rfl)) (hw _ (List.mem_of_getElem? (i := 8) rfl)) (hw _ (List.mem_of_getElem? (i := 9) rfl)) (by decide) (own_bk (rm_dec4 l Z a0 hw b48 off k48 (own_v4 (0 : Int32) off (fu.toInt8.toInt32) (c1.toInt8.toInt32) (c2.toInt8.toInt32) (c3.toInt8.toInt32)) (0 : Int32) (fu.toInt8.toInt32) (c1.toInt8.toInt32) (c2.toInt8.toInt32) (c3.toInt8.toInt32) w1 kw h55 n0 F56 F57 S0 F58 (own_o0 hoff) (own_g40 hoff) (own_o1 hoff) (own_g41 hoff) (own_o2 hoff) (own_g42 hoff) (own_o3 hoff) (own_g43 hoff)) hZ (hw _ (List.mem_of_getElem? (i := 9) rfl)) (hw _ (List.mem_of_getElem? (i := 8) rfl)) (by decide) (by decide)) e55 (g := (mkF m 416 #[.val (.int p1), .val (.int p2), .val (.int p3), .val (.int p4), .val (.int p5), .val (.int p6), .val (.int (4 : Int32)), .val (.int fu), .val (.int c1), .val (.int c2), .val (.int c3), .val (.int off), .val (.ref b48), .val (.int ok), .val (.int (((((fu &&& (7 : Int32)) <<< ((18 : Int32) &&& 31)) ||| ((c1 &&& (63 : Int32)) <<< ((12 : Int32) &&& 31))) ||| ((c2 &&& (63 : Int32)) <<< ((6 : Int32) &&& 31))) ||| (c3 &&& (63 : Int32)))), .val (.int (-1 : Int32)), s16] [(.int (4 : Int32)), (.int off), (.ref b48)])) rfl (by rw [hml]; rfl) (lenOf pd_1 rfl) rfl (by show 2 * 0 + _ ≤ _; exact Nat.le_of_eq rfl) (hb hby at_416) (own_le hc55 (by decide)) (own_le hs55 (by decide)) (fun v59 T59 h59 L59 X59 e59 q59 => ?_)
        obtain ⟨rfl, M59, s59⟩ := q59
        replace e59 : T59.heap = h55 := e59.trans s59
        have N59 := Fr.app N55 M59
        refine own_go (fun t k => XS.iload X59.here hx rfl (hb hby at_419) rfl  k) ?_
        have hc421 : (own_dec4 (fu.toInt8.toInt32) (c1.toInt8.toInt32) (c2.toInt8.toInt32) (c3.toInt8.toInt32)) = (-1 : Int32) := ((own_law4 hf.1 hf.2 hc1.1 hc1.2 hc2.1 hc2.2 hc3.1 hc3.2).trans (if_pos (hok ▸ hc399)))
        refine own_go (fun t k => XS.icmpNo X59.here hx rfl (hb hby at_421) rfl (teq hc421).2 k) ?_
        refine own_go (fun t k => XS.iconst X59.here hx rfl (hb hby at_424) k) ?_
        refine own_go (fun t k => XS.goto X59.here hx rfl (pc0 := 425) (pc' := 429) rfl (hb hby at_425) (by decide) (by decide) k) ?_
        show own_Run p e below Φ (T59.setTop (mkF m 429 #[.val (.int p1), .val (.int p2), .val (.int p3), .val (.int p4), .val (.int p5), .val (.int p6), .val (.int (4 : Int32)), .val (.int fu), .val (.int c1), .val (.int c2), .val (.int c3), .val (.int off), .val (.ref b48), .val (.int ok), .val (.int (((((fu &&& (7 : Int32)) <<< ((18 : Int32) &&& 31)) ||| ((c1 &&& (63 : Int32)) <<< ((12 : Int32) &&& 31))) ||| ((c2 &&& (63 : Int32)) <<< ((6 : Int32) &&& 31))) ||| (c3 &&& (63 : Int32)))), .val (.int (-1 : Int32)), s16] [(.int (1 : Int32))]))
        subst hΦ
        exact own_retN X59 hx (t := .boolean) Bd.returns (by simp) hlk (hb hby at_429) e59 ⟨rfl, N59⟩ (Nat.le_trans (Nat.add_le_add_right hc55 0) (by decide)) (Nat.le_trans (Nat.add_le_add_right hs55 0) (by decide))
      · refine own_go (fun t k => XS.ifNo X55.here hx rfl (hb hby at_399) rfl ((if0 _ _).trans (feq hc399).1) k) ?_
        refine own_go (fun t k => XS.iload X55.here hx rfl (hb hby at_402) rfl  k) ?_
        refine own_go (fun t k => XS.goto X55.here hx rfl (pc0 := 404) (pc' := 408) rfl (hb hby at_404) (by decide) (by decide) k) ?_
        refine own_go (fun t k => XS.istore X55.here hx rfl (hb hby at_408) rfl (l' := #[.val (.int p1), .val (.int p2), .val (.int p3), .val (.int p4), .val (.int p5), .val (.int p6), .val (.int (4 : Int32)), .val (.int fu), .val (.int c1), .val (.int c2), .val (.int c3), .val (.int off), .val (.ref b48), .val (.int ok), .val (.int (((((fu &&& (7 : Int32)) <<< ((18 : Int32) &&& 31)) ||| ((c1 &&& (63 : Int32)) <<< ((12 : Int32) &&& 31))) ||| ((c2 &&& (63 : Int32)) <<< ((6 : Int32) &&& 31))) ||| (c3 &&& (63 : Int32)))), .val (.int (((((fu &&& (7 : Int32)) <<< ((18 : Int32) &&& 31)) ||| ((c1 &&& (63 : Int32)) <<< ((12 : Int32) &&& 31))) ||| ((c2 &&& (63 : Int32)) <<< ((6 : Int32) &&& 31))) ||| (c3 &&& (63 : Int32)))), s16]) (own_st15 o15) k) ?_
        refine own_go (fun t k => XS.aload X55.here hx rfl (hb hby at_410) rfl rfl  k) ?_
        show own_Run p e below Φ (T55.setTop (mkF m 412 #[.val (.int p1), .val (.int p2), .val (.int p3), .val (.int p4), .val (.int p5), .val (.int p6), .val (.int (4 : Int32)), .val (.int fu), .val (.int c1), .val (.int c2), .val (.int c3), .val (.int off), .val (.ref b48), .val (.int ok), .val (.int (((((fu &&& (7 : Int32)) <<< ((18 : Int32) &&& 31)) ||| ((c1 &&& (63 : Int32)) <<< ((12 : Int32) &&& 31))) ||| ((c2 &&& (63 : Int32)) <<< ((6 : Int32) &&& 31))) ||| (c3 &&& (63 : Int32)))), .val (.int (((((fu &&& (7 : Int32)) <<< ((18 : Int32) &&& 31)) ||| ((c1 &&& (63 : Int32)) <<< ((12 : Int32) &&& 31))) ||| ((c2 &&& (63 : Int32)) <<< ((6 : Int32) &&& 31))) ||| (c3 &&& (63 : Int32)))), s16] [(.ref b48)]))
        refine own_go (fun t k => XS.iload X55.here hx rfl (hb hby at_412) rfl  k) ?_
        refine own_go (fun t k => XS.iload X55.here hx rfl (hb hby at_414) rfl  k) ?_
        have F60 : Arv Z h55 w1 kw .int (5 : Int32) [(.int (0 : Int32)), (.int (0 : Int32)), (.int (128 : Int32)), (.int (2048 : Int32)), (.int (65536 : Int32))] (.int (0 : Int32)) := V0.ext F57.2
        refine own_callS X55 hx hZ (y := (⟨"com/example/templum/templum/validation/Utf8", "decode", "([BII)I"⟩ : MethodName)) (W := 0) (argsL := [(.ref b48), (.int off), (.int (4 : Int32))]) (rest := []) hown (hw _ (List.mem_of_getElem? (i := 6) rfl)) (hw _ (List.mem_of_getElem? (i := 7) rfl)) (hw _ (List.mem_of_getElem? (i := 8) rfl)) (hw _ (List.mem_of_getElem? (i := 9) rfl)) (by decide) (own_bk (rm_dec4 l Z a0 hw b48 off k48 (own_v4 (0 : Int32) off (fu.toInt8.toInt32) (c1.toInt8.toInt32) (c2.toInt8.toInt32) (c3.toInt8.toInt32)) (0 : Int32) (fu.toInt8.toInt32) (c1.toInt8.toInt32) (c2.toInt8.toInt32) (c3.toInt8.toInt32) w1 kw h55 n0 F56 F57 S0 F60 (own_o0 hoff) (own_g40 hoff) (own_o1 hoff) (own_g41 hoff) (own_o2 hoff) (own_g42 hoff) (own_o3 hoff) (own_g43 hoff)) hZ (hw _ (List.mem_of_getElem? (i := 9) rfl)) (hw _ (List.mem_of_getElem? (i := 8) rfl)) (by decide) (by decide)) e55 (g := (mkF m 416 #[.val (.int p1), .val (.int p2), .val (.int p3), .val (.int p4), .val (.int p5), .val (.int p6), .val (.int (4 : Int32)), .val (.int fu), .val (.int c1), .val (.int c2), .val (.int c3), .val (.int off), .val (.ref b48), .val (.int ok), .val (.int (((((fu &&& (7 : Int32)) <<< ((18 : Int32) &&& 31)) ||| ((c1 &&& (63 : Int32)) <<< ((12 : Int32) &&& 31))) ||| ((c2 &&& (63 : Int32)) <<< ((6 : Int32) &&& 31))) ||| (c3 &&& (63 : Int32)))), .val (.int (((((fu &&& (7 : Int32)) <<< ((18 : Int32) &&& 31)) ||| ((c1 &&& (63 : Int32)) <<< ((12 : Int32) &&& 31))) ||| ((c2 &&& (63 : Int32)) <<< ((6 : Int32) &&& 31))) ||| (c3 &&& (63 : Int32)))), s16] [(.int (4 : Int32)), (.int off), (.ref b48)])) rfl (by rw [hml]; rfl) (lenOf pd_1 rfl) rfl (by show 2 * 0 + _ ≤ _; exact Nat.le_of_eq rfl) (hb hby at_416) (own_le hc55 (by decide)) (own_le hs55 (by decide)) (fun v61 T61 h61 L61 X61 e61 q61 => ?_)
        obtain ⟨rfl, M61, s61⟩ := q61
        replace e61 : T61.heap = h55 := e61.trans s61
        have N61 := Fr.app N55 M61
        refine own_go (fun t k => XS.iload X61.here hx rfl (hb hby at_419) rfl  k) ?_
        have hc421 : (own_dec4 (fu.toInt8.toInt32) (c1.toInt8.toInt32) (c2.toInt8.toInt32) (c3.toInt8.toInt32)) = (((((fu &&& (7 : Int32)) <<< ((18 : Int32) &&& 31)) ||| ((c1 &&& (63 : Int32)) <<< ((12 : Int32) &&& 31))) ||| ((c2 &&& (63 : Int32)) <<< ((6 : Int32) &&& 31))) ||| (c3 &&& (63 : Int32))) := ((own_law4 hf.1 hf.2 hc1.1 hc1.2 hc2.1 hc2.2 hc3.1 hc3.2).trans (if_neg (hok ▸ hc399)))
        refine own_go (fun t k => XS.icmpNo X61.here hx rfl (hb hby at_421) rfl (teq hc421).2 k) ?_
        show own_Run p e below Φ (T61.setTop (mkF m 424 #[.val (.int p1), .val (.int p2), .val (.int p3), .val (.int p4), .val (.int p5), .val (.int p6), .val (.int (4 : Int32)), .val (.int fu), .val (.int c1), .val (.int c2), .val (.int c3), .val (.int off), .val (.ref b48), .val (.int ok), .val (.int (((((fu &&& (7 : Int32)) <<< ((18 : Int32) &&& 31)) ||| ((c1 &&& (63 : Int32)) <<< ((12 : Int32) &&& 31))) ||| ((c2 &&& (63 : Int32)) <<< ((6 : Int32) &&& 31))) ||| (c3 &&& (63 : Int32)))), .val (.int (((((fu &&& (7 : Int32)) <<< ((18 : Int32) &&& 31)) ||| ((c1 &&& (63 : Int32)) <<< ((12 : Int32) &&& 31))) ||| ((c2 &&& (63 : Int32)) <<< ((6 : Int32) &&& 31))) ||| (c3 &&& (63 : Int32)))), s16] []))
        refine own_go (fun t k => XS.iconst X61.here hx rfl (hb hby at_424) k) ?_
        refine own_go (fun t k => XS.goto X61.here hx rfl (pc0 := 425) (pc' := 429) rfl (hb hby at_425) (by decide) (by decide) k) ?_
        subst hΦ
        exact own_retN X61 hx (t := .boolean) Bd.returns (by simp) hlk (hb hby at_429) e61 ⟨rfl, N61⟩ (Nat.le_trans (Nat.add_le_add_right hc55 0) (by decide)) (Nat.le_trans (Nat.add_le_add_right hs55 0) (by decide))
    show own_Run p e below Φ (T53.setTop (mkF m 278 #[.val (.int p1), .val (.int p2), .val (.int p3), .val (.int p4), .val (.int p5), .val (.int p6), .val (.int (4 : Int32)), .val (.int fu), .val (.int c1), .val (.int c2), .val (.int c3), .val (.int off), .val (.ref b48), .unset, .unset, .unset, .unset] []))
    refine own_go (fun t k => XS.iload X53.here hx rfl (hb hby at_278) rfl  k) ?_
    refine own_go (fun t k => XS.sipush X53.here hx rfl (hb hby at_280) k) ?_
    by_cases hc283 : fu = (240 : Int32)
    · refine own_go (fun t k => XS.icmpNo X53.here hx rfl (hb hby at_283) rfl (teq hc283).2 k) ?_
      show own_Run p e below Φ (T53.setTop (mkF m 286 #[.val (.int p1), .val (.int p2), .val (.int p3), .val (.int p4), .val (.int p5), .val (.int p6), .val (.int (4 : Int32)), .val (.int fu), .val (.int c1), .val (.int c2), .val (.int c3), .val (.int off), .val (.ref b48), .unset, .unset, .unset, .unset] []))
      refine own_go (fun t k => XS.sipush X53.here hx rfl (hb hby at_286) k) ?_
      refine own_go (fun t k => XS.goto X53.here hx rfl (pc0 := 289) (pc' := 295) rfl (hb hby at_289) (by decide) (by decide) k) ?_
      refine own_go (fun t k => XS.istore X53.here hx rfl (hb hby at_295) rfl (l' := #[.val (.int p1), .val (.int p2), .val (.int p3), .val (.int p4), .val (.int p5), .val (.int p6), .val (.int (4 : Int32)), .val (.int fu), .val (.int c1), .val (.int c2), .val (.int c3), .val (.int off), .val (.ref b48), .unset, .unset, .val (.int (144 : Int32)), .unset]) rfl k) ?_
      refine own_go (fun t k => XS.iload X53.here hx rfl (hb hby at_297) rfl  k) ?_
      refine own_go (fun t k => XS.sipush X53.here hx rfl (hb hby at_299) k) ?_
      show own_Run p e below Φ (T53.setTop (mkF m 302 #[.val (.int p1), .val (.int p2), .val (.int p3), .val (.int p4), .val (.int p5), .val (.int p6), .val (.int (4 : Int32)), .val (.int fu), .val (.int c1), .val (.int c2), .val (.int c3), .val (.int off), .val (.ref b48), .unset, .unset, .val (.int (144 : Int32)), .unset] [(.int (244 : Int32)), (.int fu)]))
      by_cases hc302 : fu = (244 : Int32)
      · refine own_go (fun t k => XS.icmpNo X53.here hx rfl (hb hby at_302) rfl (teq hc302).2 k) ?_
        refine own_go (fun t k => XS.sipush X53.here hx rfl (hb hby at_305) k) ?_
        refine own_go (fun t k => XS.goto X53.here hx rfl (pc0 := 308) (pc' := 314) rfl (hb hby at_308) (by decide) (by decide) k) ?_
        refine own_go (fun t k => XS.istore X53.here hx rfl (hb hby at_314) rfl (l' := #[.val (.int p1), .val (.int p2), .val (.int p3), .val (.int p4), .val (.int p5), .val (.int p6), .val (.int (4 : Int32)), .val (.int fu), .val (.int c1), .val (.int c2), .val (.int c3), .val (.int off), .val (.ref b48), .unset, .unset, .val (.int (144 : Int32)), .val (.int (143 : Int32))]) rfl k) ?_
        refine own_go (fun t k => XS.iload X53.here hx rfl (hb hby at_316) rfl  k) ?_
        show own_Run p e below Φ (T53.setTop (mkF m 318 #[.val (.int p1), .val (.int p2), .val (.int p3), .val (.int p4), .val (.int p5), .val (.int p6), .val (.int (4 : Int32)), .val (.int fu), .val (.int c1), .val (.int c2), .val (.int c3), .val (.int off), .val (.ref b48), .unset, .unset, .val (.int (144 : Int32)), .val (.int (143 : Int32))] [(.int c1)]))
        refine own_go (fun t k => XS.iload X53.here hx rfl (hb hby at_318) rfl  k) ?_
        refine own_go (fun t k => XS.iload X53.here hx rfl (hb hby at_320) rfl  k) ?_
        refine own_callS X53 hx hZ (y := (⟨"com/example/templum/templum/validation/Utf8DecodePinLaw", "in", "(III)Z"⟩ : MethodName)) (W := 0) (argsL := [(.int c1), (.int (144 : Int32)), (.int (143 : Int32))]) (rest := []) hown (hw _ (List.mem_of_getElem? (i := 2) rfl)) (hw _ (List.mem_of_getElem? (i := 3) rfl)) (hw _ (List.mem_of_getElem? (i := 4) rfl)) (hw _ (List.mem_of_getElem? (i := 5) rfl)) (by decide) (own_bk (rm_in l Z a0 hw c1 (144 : Int32) (143 : Int32) h53 n0 ) hZ (hw _ (List.mem_of_getElem? (i := 5) rfl)) (hw _ (List.mem_of_getElem? (i := 4) rfl)) (by decide) (by decide)) e53 (g := (mkF m 322 #[.val (.int p1), .val (.int p2), .val (.int p3), .val (.int p4), .val (.int p5), .val (.int p6), .val (.int (4 : Int32)), .val (.int fu), .val (.int c1), .val (.int c2), .val (.int c3), .val (.int off), .val (.ref b48), .unset, .unset, .val (.int (144 : Int32)), .val (.int (143 : Int32))] [(.int (143 : Int32)), (.int (144 : Int32)), (.int c1)])) rfl (by rw [hml]; rfl) (lenOf pd_0 rfl) rfl (by show 2 * 0 + _ ≤ _; exact Nat.le_of_eq rfl) (hb hby at_322) (by decide) (by decide) (fun v62 T62 h62 L62 X62 e62 q62 => ?_)
        obtain ⟨rfl, M62, s62⟩ := q62
        replace e62 : T62.heap = h53 := e62.trans s62
        have N62 := Fr.app N53 M62
        by_cases hc325 : (own_in c1 (144 : Int32) (143 : Int32)) = (0 : Int32)
        · refine own_go (fun t k => XS.ifYes X62.here hx rfl (pc0 := 325) (pc' := 360) rfl (hb hby at_325) rfl ((if0 _ _).trans (teq hc325).1) (by decide) (by decide) k) ?_
          refine own_go (fun t k => XS.iconst X62.here hx rfl (hb hby at_360) k) ?_
          have F63 : Old Z n0 h53 := (((((O0.ext E48).wr W50 (Nat.le_trans Z0 (Nat.le_of_eq g48.symm))).wr W51 (Nat.le_trans Z0 (Nat.le_of_eq g48.symm))).wr W52 (Nat.le_trans Z0 (Nat.le_of_eq g48.symm))).wr W53 (Nat.le_trans Z0 (Nat.le_of_eq g48.symm)))
          exact J361_54 (0 : Int32) (.val (.int (144 : Int32))) (.val (.int (143 : Int32))) T62 h53 _ _ _ X62 e62 N62 (by decide) (by decide) V53 F63 (by unfold own_ok4; rw [if_pos hc283, if_pos hc302, if_pos hc325]) (One.val rfl) (One.val rfl)
        · refine own_go (fun t k => XS.ifNo X62.here hx rfl (hb hby at_325) rfl ((if0 _ _).trans (feq hc325).1) k) ?_
          show own_Run p e below Φ (T62.setTop (mkF m 328 #[.val (.int p1), .val (.int p2), .val (.int p3), .val (.int p4), .val (.int p5), .val (.int p6), .val (.int (4 : Int32)), .val (.int fu), .val (.int c1), .val (.int c2), .val (.int c3), .val (.int off), .val (.ref b48), .unset, .unset, .val (.int (144 : Int32)), .val (.int (143 : Int32))] []))
          refine own_go (fun t k => XS.iload X62.here hx rfl (hb hby at_328) rfl  k) ?_
          refine own_go (fun t k => XS.sipush X62.here hx rfl (hb hby at_330) k) ?_
          refine own_go (fun t k => XS.sipush X62.here hx rfl (hb hby at_333) k) ?_
          refine own_callS X62 hx hZ (y := (⟨"com/example/templum/templum/validation/Utf8DecodePinLaw", "in", "(III)Z"⟩ : MethodName)) (W := 0) (argsL := [(.int c2), (.int (128 : Int32)), (.int (191 : Int32))]) (rest := []) hown (hw _ (List.mem_of_getElem? (i := 2) rfl)) (hw _ (List.mem_of_getElem? (i := 3) rfl)) (hw _ (List.mem_of_getElem? (i := 4) rfl)) (hw _ (List.mem_of_getElem? (i := 5) rfl)) (by decide) (own_bk (rm_in l Z a0 hw c2 (128 : Int32) (191 : Int32) h53 n0 ) hZ (hw _ (List.mem_of_getElem? (i := 5) rfl)) (hw _ (List.mem_of_getElem? (i := 4) rfl)) (by decide) (by decide)) e62 (g := (mkF m 336 #[.val (.int p1), .val (.int p2), .val (.int p3), .val (.int p4), .val (.int p5), .val (.int p6), .val (.int (4 : Int32)), .val (.int fu), .val (.int c1), .val (.int c2), .val (.int c3), .val (.int off), .val (.ref b48), .unset, .unset, .val (.int (144 : Int32)), .val (.int (143 : Int32))] [(.int (191 : Int32)), (.int (128 : Int32)), (.int c2)])) rfl (by rw [hml]; rfl) (lenOf pd_0 rfl) rfl (by show 2 * 0 + _ ≤ _; exact Nat.le_of_eq rfl) (hb hby at_336) (by decide) (by decide) (fun v64 T64 h64 L64 X64 e64 q64 => ?_)
          obtain ⟨rfl, M64, s64⟩ := q64
          replace e64 : T64.heap = h53 := e64.trans s64
          have N64 := Fr.app N62 M64
          by_cases hc339 : (own_in c2 (128 : Int32) (191 : Int32)) = (0 : Int32)
          · refine own_go (fun t k => XS.ifYes X64.here hx rfl (pc0 := 339) (pc' := 360) rfl (hb hby at_339) rfl ((if0 _ _).trans (teq hc339).1) (by decide) (by decide) k) ?_
            show own_Run p e below Φ (T64.setTop (mkF m 360 #[.val (.int p1), .val (.int p2), .val (.int p3), .val (.int p4), .val (.int p5), .val (.int p6), .val (.int (4 : Int32)), .val (.int fu), .val (.int c1), .val (.int c2), .val (.int c3), .val (.int off), .val (.ref b48), .unset, .unset, .val (.int (144 : Int32)), .val (.int (143 : Int32))] []))
            refine own_go (fun t k => XS.iconst X64.here hx rfl (hb hby at_360) k) ?_
            have F65 : Old Z n0 h53 := (((((O0.ext E48).wr W50 (Nat.le_trans Z0 (Nat.le_of_eq g48.symm))).wr W51 (Nat.le_trans Z0 (Nat.le_of_eq g48.symm))).wr W52 (Nat.le_trans Z0 (Nat.le_of_eq g48.symm))).wr W53 (Nat.le_trans Z0 (Nat.le_of_eq g48.symm)))
            exact J361_54 (0 : Int32) (.val (.int (144 : Int32))) (.val (.int (143 : Int32))) T64 h53 _ _ _ X64 e64 N64 (by decide) (by decide) V53 F65 (by unfold own_ok4; rw [if_pos hc283, if_pos hc302, if_neg hc325, if_pos hc339]) (One.val rfl) (One.val rfl)
          · refine own_go (fun t k => XS.ifNo X64.here hx rfl (hb hby at_339) rfl ((if0 _ _).trans (feq hc339).1) k) ?_
            refine own_go (fun t k => XS.iload X64.here hx rfl (hb hby at_342) rfl  k) ?_
            refine own_go (fun t k => XS.sipush X64.here hx rfl (hb hby at_344) k) ?_
            refine own_go (fun t k => XS.sipush X64.here hx rfl (hb hby at_347) k) ?_
            refine own_callS X64 hx hZ (y := (⟨"com/example/templum/templum/validation/Utf8DecodePinLaw", "in", "(III)Z"⟩ : MethodName)) (W := 0) (argsL := [(.int c3), (.int (128 : Int32)), (.int (191 : Int32))]) (rest := []) hown (hw _ (List.mem_of_getElem? (i := 2) rfl)) (hw _ (List.mem_of_getElem? (i := 3) rfl)) (hw _ (List.mem_of_getElem? (i := 4) rfl)) (hw _ (List.mem_of_getElem? (i := 5) rfl)) (by decide) (own_bk (rm_in l Z a0 hw c3 (128 : Int32) (191 : Int32) h53 n0 ) hZ (hw _ (List.mem_of_getElem? (i := 5) rfl)) (hw _ (List.mem_of_getElem? (i := 4) rfl)) (by decide) (by decide)) e64 (g := (mkF m 350 #[.val (.int p1), .val (.int p2), .val (.int p3), .val (.int p4), .val (.int p5), .val (.int p6), .val (.int (4 : Int32)), .val (.int fu), .val (.int c1), .val (.int c2), .val (.int c3), .val (.int off), .val (.ref b48), .unset, .unset, .val (.int (144 : Int32)), .val (.int (143 : Int32))] [(.int (191 : Int32)), (.int (128 : Int32)), (.int c3)])) rfl (by rw [hml]; rfl) (lenOf pd_0 rfl) rfl (by show 2 * 0 + _ ≤ _; exact Nat.le_of_eq rfl) (hb hby at_350) (by decide) (by decide) (fun v66 T66 h66 L66 X66 e66 q66 => ?_)
            obtain ⟨rfl, M66, s66⟩ := q66
            replace e66 : T66.heap = h53 := e66.trans s66
            have N66 := Fr.app N64 M66
            show own_Run p e below Φ (T66.setTop (mkF m 353 #[.val (.int p1), .val (.int p2), .val (.int p3), .val (.int p4), .val (.int p5), .val (.int p6), .val (.int (4 : Int32)), .val (.int fu), .val (.int c1), .val (.int c2), .val (.int c3), .val (.int off), .val (.ref b48), .unset, .unset, .val (.int (144 : Int32)), .val (.int (143 : Int32))] [(.int (own_in c3 (128 : Int32) (191 : Int32)))]))
            by_cases hc353 : (own_in c3 (128 : Int32) (191 : Int32)) = (0 : Int32)
            · refine own_go (fun t k => XS.ifYes X66.here hx rfl (pc0 := 353) (pc' := 360) rfl (hb hby at_353) rfl ((if0 _ _).trans (teq hc353).1) (by decide) (by decide) k) ?_
              refine own_go (fun t k => XS.iconst X66.here hx rfl (hb hby at_360) k) ?_
              have F67 : Old Z n0 h53 := (((((O0.ext E48).wr W50 (Nat.le_trans Z0 (Nat.le_of_eq g48.symm))).wr W51 (Nat.le_trans Z0 (Nat.le_of_eq g48.symm))).wr W52 (Nat.le_trans Z0 (Nat.le_of_eq g48.symm))).wr W53 (Nat.le_trans Z0 (Nat.le_of_eq g48.symm)))
              exact J361_54 (0 : Int32) (.val (.int (144 : Int32))) (.val (.int (143 : Int32))) T66 h53 _ _ _ X66 e66 N66 (by decide) (by decide) V53 F67 (by unfold own_ok4; rw [if_pos hc283, if_pos hc302, if_neg hc325, if_neg hc339, if_pos hc353]) (One.val rfl) (One.val rfl)
            · refine own_go (fun t k => XS.ifNo X66.here hx rfl (hb hby at_353) rfl ((if0 _ _).trans (feq hc353).1) k) ?_
              refine own_go (fun t k => XS.iconst X66.here hx rfl (hb hby at_356) k) ?_
              refine own_go (fun t k => XS.goto X66.here hx rfl (pc0 := 357) (pc' := 361) rfl (hb hby at_357) (by decide) (by decide) k) ?_
              have F68 : Old Z n0 h53 := (((((O0.ext E48).wr W50 (Nat.le_trans Z0 (Nat.le_of_eq g48.symm))).wr W51 (Nat.le_trans Z0 (Nat.le_of_eq g48.symm))).wr W52 (Nat.le_trans Z0 (Nat.le_of_eq g48.symm))).wr W53 (Nat.le_trans Z0 (Nat.le_of_eq g48.symm)))
              exact J361_54 (1 : Int32) (.val (.int (144 : Int32))) (.val (.int (143 : Int32))) T66 h53 _ _ _ X66 e66 N66 (by decide) (by decide) V53 F68 (by unfold own_ok4; rw [if_pos hc283, if_pos hc302, if_neg hc325, if_neg hc339, if_neg hc353]) (One.val rfl) (One.val rfl)
      · refine own_go (fun t k => XS.icmpYes X53.here hx rfl (pc0 := 302) (pc' := 311) rfl (hb hby at_302) rfl (feq hc302).2 (by decide) (by decide) k) ?_
        refine own_go (fun t k => XS.sipush X53.here hx rfl (hb hby at_311) k) ?_
        show own_Run p e below Φ (T53.setTop (mkF m 314 #[.val (.int p1), .val (.int p2), .val (.int p3), .val (.int p4), .val (.int p5), .val (.int p6), .val (.int (4 : Int32)), .val (.int fu), .val (.int c1), .val (.int c2), .val (.int c3), .val (.int off), .val (.ref b48), .unset, .unset, .val (.int (144 : Int32)), .unset] [(.int (191 : Int32))]))
        refine own_go (fun t k => XS.istore X53.here hx rfl (hb hby at_314) rfl (l' := #[.val (.int p1), .val (.int p2), .val (.int p3), .val (.int p4), .val (.int p5), .val (.int p6), .val (.int (4 : Int32)), .val (.int fu), .val (.int c1), .val (.int c2), .val (.int c3), .val (.int off), .val (.ref b48), .unset, .unset, .val (.int (144 : Int32)), .val (.int (191 : Int32))]) rfl k) ?_
        refine own_go (fun t k => XS.iload X53.here hx rfl (hb hby at_316) rfl  k) ?_
        refine own_go (fun t k => XS.iload X53.here hx rfl (hb hby at_318) rfl  k) ?_
        refine own_go (fun t k => XS.iload X53.here hx rfl (hb hby at_320) rfl  k) ?_
        refine own_callS X53 hx hZ (y := (⟨"com/example/templum/templum/validation/Utf8DecodePinLaw", "in", "(III)Z"⟩ : MethodName)) (W := 0) (argsL := [(.int c1), (.int (144 : Int32)), (.int (191 : Int32))]) (rest := []) hown (hw _ (List.mem_of_getElem? (i := 2) rfl)) (hw _ (List.mem_of_getElem? (i := 3) rfl)) (hw _ (List.mem_of_getElem? (i := 4) rfl)) (hw _ (List.mem_of_getElem? (i := 5) rfl)) (by decide) (own_bk (rm_in l Z a0 hw c1 (144 : Int32) (191 : Int32) h53 n0 ) hZ (hw _ (List.mem_of_getElem? (i := 5) rfl)) (hw _ (List.mem_of_getElem? (i := 4) rfl)) (by decide) (by decide)) e53 (g := (mkF m 322 #[.val (.int p1), .val (.int p2), .val (.int p3), .val (.int p4), .val (.int p5), .val (.int p6), .val (.int (4 : Int32)), .val (.int fu), .val (.int c1), .val (.int c2), .val (.int c3), .val (.int off), .val (.ref b48), .unset, .unset, .val (.int (144 : Int32)), .val (.int (191 : Int32))] [(.int (191 : Int32)), (.int (144 : Int32)), (.int c1)])) rfl (by rw [hml]; rfl) (lenOf pd_0 rfl) rfl (by show 2 * 0 + _ ≤ _; exact Nat.le_of_eq rfl) (hb hby at_322) (by decide) (by decide) (fun v69 T69 h69 L69 X69 e69 q69 => ?_)
        obtain ⟨rfl, M69, s69⟩ := q69
        replace e69 : T69.heap = h53 := e69.trans s69
        have N69 := Fr.app N53 M69
        show own_Run p e below Φ (T69.setTop (mkF m 325 #[.val (.int p1), .val (.int p2), .val (.int p3), .val (.int p4), .val (.int p5), .val (.int p6), .val (.int (4 : Int32)), .val (.int fu), .val (.int c1), .val (.int c2), .val (.int c3), .val (.int off), .val (.ref b48), .unset, .unset, .val (.int (144 : Int32)), .val (.int (191 : Int32))] [(.int (own_in c1 (144 : Int32) (191 : Int32)))]))
        by_cases hc325 : (own_in c1 (144 : Int32) (191 : Int32)) = (0 : Int32)
        · refine own_go (fun t k => XS.ifYes X69.here hx rfl (pc0 := 325) (pc' := 360) rfl (hb hby at_325) rfl ((if0 _ _).trans (teq hc325).1) (by decide) (by decide) k) ?_
          refine own_go (fun t k => XS.iconst X69.here hx rfl (hb hby at_360) k) ?_
          have F70 : Old Z n0 h53 := (((((O0.ext E48).wr W50 (Nat.le_trans Z0 (Nat.le_of_eq g48.symm))).wr W51 (Nat.le_trans Z0 (Nat.le_of_eq g48.symm))).wr W52 (Nat.le_trans Z0 (Nat.le_of_eq g48.symm))).wr W53 (Nat.le_trans Z0 (Nat.le_of_eq g48.symm)))
          exact J361_54 (0 : Int32) (.val (.int (144 : Int32))) (.val (.int (191 : Int32))) T69 h53 _ _ _ X69 e69 N69 (by decide) (by decide) V53 F70 (by unfold own_ok4; rw [if_pos hc283, if_neg hc302, if_pos hc325]) (One.val rfl) (One.val rfl)
        · refine own_go (fun t k => XS.ifNo X69.here hx rfl (hb hby at_325) rfl ((if0 _ _).trans (feq hc325).1) k) ?_
          refine own_go (fun t k => XS.iload X69.here hx rfl (hb hby at_328) rfl  k) ?_
          refine own_go (fun t k => XS.sipush X69.here hx rfl (hb hby at_330) k) ?_
          refine own_go (fun t k => XS.sipush X69.here hx rfl (hb hby at_333) k) ?_
          show own_Run p e below Φ (T69.setTop (mkF m 336 #[.val (.int p1), .val (.int p2), .val (.int p3), .val (.int p4), .val (.int p5), .val (.int p6), .val (.int (4 : Int32)), .val (.int fu), .val (.int c1), .val (.int c2), .val (.int c3), .val (.int off), .val (.ref b48), .unset, .unset, .val (.int (144 : Int32)), .val (.int (191 : Int32))] [(.int (191 : Int32)), (.int (128 : Int32)), (.int c2)]))
          refine own_callS X69 hx hZ (y := (⟨"com/example/templum/templum/validation/Utf8DecodePinLaw", "in", "(III)Z"⟩ : MethodName)) (W := 0) (argsL := [(.int c2), (.int (128 : Int32)), (.int (191 : Int32))]) (rest := []) hown (hw _ (List.mem_of_getElem? (i := 2) rfl)) (hw _ (List.mem_of_getElem? (i := 3) rfl)) (hw _ (List.mem_of_getElem? (i := 4) rfl)) (hw _ (List.mem_of_getElem? (i := 5) rfl)) (by decide) (own_bk (rm_in l Z a0 hw c2 (128 : Int32) (191 : Int32) h53 n0 ) hZ (hw _ (List.mem_of_getElem? (i := 5) rfl)) (hw _ (List.mem_of_getElem? (i := 4) rfl)) (by decide) (by decide)) e69 (g := (mkF m 336 #[.val (.int p1), .val (.int p2), .val (.int p3), .val (.int p4), .val (.int p5), .val (.int p6), .val (.int (4 : Int32)), .val (.int fu), .val (.int c1), .val (.int c2), .val (.int c3), .val (.int off), .val (.ref b48), .unset, .unset, .val (.int (144 : Int32)), .val (.int (191 : Int32))] [(.int (191 : Int32)), (.int (128 : Int32)), (.int c2)])) rfl (by rw [hml]; rfl) (lenOf pd_0 rfl) rfl (by show 2 * 0 + _ ≤ _; exact Nat.le_of_eq rfl) (hb hby at_336) (by decide) (by decide) (fun v71 T71 h71 L71 X71 e71 q71 => ?_)
          obtain ⟨rfl, M71, s71⟩ := q71
          replace e71 : T71.heap = h53 := e71.trans s71
          have N71 := Fr.app N69 M71
          by_cases hc339 : (own_in c2 (128 : Int32) (191 : Int32)) = (0 : Int32)
          · refine own_go (fun t k => XS.ifYes X71.here hx rfl (pc0 := 339) (pc' := 360) rfl (hb hby at_339) rfl ((if0 _ _).trans (teq hc339).1) (by decide) (by decide) k) ?_
            refine own_go (fun t k => XS.iconst X71.here hx rfl (hb hby at_360) k) ?_
            have F72 : Old Z n0 h53 := (((((O0.ext E48).wr W50 (Nat.le_trans Z0 (Nat.le_of_eq g48.symm))).wr W51 (Nat.le_trans Z0 (Nat.le_of_eq g48.symm))).wr W52 (Nat.le_trans Z0 (Nat.le_of_eq g48.symm))).wr W53 (Nat.le_trans Z0 (Nat.le_of_eq g48.symm)))
            exact J361_54 (0 : Int32) (.val (.int (144 : Int32))) (.val (.int (191 : Int32))) T71 h53 _ _ _ X71 e71 N71 (by decide) (by decide) V53 F72 (by unfold own_ok4; rw [if_pos hc283, if_neg hc302, if_neg hc325, if_pos hc339]) (One.val rfl) (One.val rfl)
          · refine own_go (fun t k => XS.ifNo X71.here hx rfl (hb hby at_339) rfl ((if0 _ _).trans (feq hc339).1) k) ?_
            refine own_go (fun t k => XS.iload X71.here hx rfl (hb hby at_342) rfl  k) ?_
            refine own_go (fun t k => XS.sipush X71.here hx rfl (hb hby at_344) k) ?_
            show own_Run p e below Φ (T71.setTop (mkF m 347 #[.val (.int p1), .val (.int p2), .val (.int p3), .val (.int p4), .val (.int p5), .val (.int p6), .val (.int (4 : Int32)), .val (.int fu), .val (.int c1), .val (.int c2), .val (.int c3), .val (.int off), .val (.ref b48), .unset, .unset, .val (.int (144 : Int32)), .val (.int (191 : Int32))] [(.int (128 : Int32)), (.int c3)]))
            refine own_go (fun t k => XS.sipush X71.here hx rfl (hb hby at_347) k) ?_
            refine own_callS X71 hx hZ (y := (⟨"com/example/templum/templum/validation/Utf8DecodePinLaw", "in", "(III)Z"⟩ : MethodName)) (W := 0) (argsL := [(.int c3), (.int (128 : Int32)), (.int (191 : Int32))]) (rest := []) hown (hw _ (List.mem_of_getElem? (i := 2) rfl)) (hw _ (List.mem_of_getElem? (i := 3) rfl)) (hw _ (List.mem_of_getElem? (i := 4) rfl)) (hw _ (List.mem_of_getElem? (i := 5) rfl)) (by decide) (own_bk (rm_in l Z a0 hw c3 (128 : Int32) (191 : Int32) h53 n0 ) hZ (hw _ (List.mem_of_getElem? (i := 5) rfl)) (hw _ (List.mem_of_getElem? (i := 4) rfl)) (by decide) (by decide)) e71 (g := (mkF m 350 #[.val (.int p1), .val (.int p2), .val (.int p3), .val (.int p4), .val (.int p5), .val (.int p6), .val (.int (4 : Int32)), .val (.int fu), .val (.int c1), .val (.int c2), .val (.int c3), .val (.int off), .val (.ref b48), .unset, .unset, .val (.int (144 : Int32)), .val (.int (191 : Int32))] [(.int (191 : Int32)), (.int (128 : Int32)), (.int c3)])) rfl (by rw [hml]; rfl) (lenOf pd_0 rfl) rfl (by show 2 * 0 + _ ≤ _; exact Nat.le_of_eq rfl) (hb hby at_350) (by decide) (by decide) (fun v73 T73 h73 L73 X73 e73 q73 => ?_)
            obtain ⟨rfl, M73, s73⟩ := q73
            replace e73 : T73.heap = h53 := e73.trans s73
            have N73 := Fr.app N71 M73
            by_cases hc353 : (own_in c3 (128 : Int32) (191 : Int32)) = (0 : Int32)
            · refine own_go (fun t k => XS.ifYes X73.here hx rfl (pc0 := 353) (pc' := 360) rfl (hb hby at_353) rfl ((if0 _ _).trans (teq hc353).1) (by decide) (by decide) k) ?_
              refine own_go (fun t k => XS.iconst X73.here hx rfl (hb hby at_360) k) ?_
              have F74 : Old Z n0 h53 := (((((O0.ext E48).wr W50 (Nat.le_trans Z0 (Nat.le_of_eq g48.symm))).wr W51 (Nat.le_trans Z0 (Nat.le_of_eq g48.symm))).wr W52 (Nat.le_trans Z0 (Nat.le_of_eq g48.symm))).wr W53 (Nat.le_trans Z0 (Nat.le_of_eq g48.symm)))
              exact J361_54 (0 : Int32) (.val (.int (144 : Int32))) (.val (.int (191 : Int32))) T73 h53 _ _ _ X73 e73 N73 (by decide) (by decide) V53 F74 (by unfold own_ok4; rw [if_pos hc283, if_neg hc302, if_neg hc325, if_neg hc339, if_pos hc353]) (One.val rfl) (One.val rfl)
            · refine own_go (fun t k => XS.ifNo X73.here hx rfl (hb hby at_353) rfl ((if0 _ _).trans (feq hc353).1) k) ?_
              refine own_go (fun t k => XS.iconst X73.here hx rfl (hb hby at_356) k) ?_
              show own_Run p e below Φ (T73.setTop (mkF m 357 #[.val (.int p1), .val (.int p2), .val (.int p3), .val (.int p4), .val (.int p5), .val (.int p6), .val (.int (4 : Int32)), .val (.int fu), .val (.int c1), .val (.int c2), .val (.int c3), .val (.int off), .val (.ref b48), .unset, .unset, .val (.int (144 : Int32)), .val (.int (191 : Int32))] [(.int (1 : Int32))]))
              refine own_go (fun t k => XS.goto X73.here hx rfl (pc0 := 357) (pc' := 361) rfl (hb hby at_357) (by decide) (by decide) k) ?_
              have F75 : Old Z n0 h53 := (((((O0.ext E48).wr W50 (Nat.le_trans Z0 (Nat.le_of_eq g48.symm))).wr W51 (Nat.le_trans Z0 (Nat.le_of_eq g48.symm))).wr W52 (Nat.le_trans Z0 (Nat.le_of_eq g48.symm))).wr W53 (Nat.le_trans Z0 (Nat.le_of_eq g48.symm)))
              exact J361_54 (1 : Int32) (.val (.int (144 : Int32))) (.val (.int (191 : Int32))) T73 h53 _ _ _ X73 e73 N73 (by decide) (by decide) V53 F75 (by unfold own_ok4; rw [if_pos hc283, if_neg hc302, if_neg hc325, if_neg hc339, if_neg hc353]) (One.val rfl) (One.val rfl)
    · refine own_go (fun t k => XS.icmpYes X53.here hx rfl (pc0 := 283) (pc' := 292) rfl (hb hby at_283) rfl (feq hc283).2 (by decide) (by decide) k) ?_
      refine own_go (fun t k => XS.sipush X53.here hx rfl (hb hby at_292) k) ?_
      refine own_go (fun t k => XS.istore X53.here hx rfl (hb hby at_295) rfl (l' := #[.val (.int p1), .val (.int p2), .val (.int p3), .val (.int p4), .val (.int p5), .val (.int p6), .val (.int (4 : Int32)), .val (.int fu), .val (.int c1), .val (.int c2), .val (.int c3), .val (.int off), .val (.ref b48), .unset, .unset, .val (.int (128 : Int32)), .unset]) rfl k) ?_
      refine own_go (fun t k => XS.iload X53.here hx rfl (hb hby at_297) rfl  k) ?_
      refine own_go (fun t k => XS.sipush X53.here hx rfl (hb hby at_299) k) ?_
      show own_Run p e below Φ (T53.setTop (mkF m 302 #[.val (.int p1), .val (.int p2), .val (.int p3), .val (.int p4), .val (.int p5), .val (.int p6), .val (.int (4 : Int32)), .val (.int fu), .val (.int c1), .val (.int c2), .val (.int c3), .val (.int off), .val (.ref b48), .unset, .unset, .val (.int (128 : Int32)), .unset] [(.int (244 : Int32)), (.int fu)]))
      by_cases hc302 : fu = (244 : Int32)
      · refine own_go (fun t k => XS.icmpNo X53.here hx rfl (hb hby at_302) rfl (teq hc302).2 k) ?_
        refine own_go (fun t k => XS.sipush X53.here hx rfl (hb hby at_305) k) ?_
        refine own_go (fun t k => XS.goto X53.here hx rfl (pc0 := 308) (pc' := 314) rfl (hb hby at_308) (by decide) (by decide) k) ?_
        refine own_go (fun t k => XS.istore X53.here hx rfl (hb hby at_314) rfl (l' := #[.val (.int p1), .val (.int p2), .val (.int p3), .val (.int p4), .val (.int p5), .val (.int p6), .val (.int (4 : Int32)), .val (.int fu), .val (.int c1), .val (.int c2), .val (.int c3), .val (.int off), .val (.ref b48), .unset, .unset, .val (.int (128 : Int32)), .val (.int (143 : Int32))]) rfl k) ?_
        refine own_go (fun t k => XS.iload X53.here hx rfl (hb hby at_316) rfl  k) ?_
        show own_Run p e below Φ (T53.setTop (mkF m 318 #[.val (.int p1), .val (.int p2), .val (.int p3), .val (.int p4), .val (.int p5), .val (.int p6), .val (.int (4 : Int32)), .val (.int fu), .val (.int c1), .val (.int c2), .val (.int c3), .val (.int off), .val (.ref b48), .unset, .unset, .val (.int (128 : Int32)), .val (.int (143 : Int32))] [(.int c1)]))
        refine own_go (fun t k => XS.iload X53.here hx rfl (hb hby at_318) rfl  k) ?_
        refine own_go (fun t k => XS.iload X53.here hx rfl (hb hby at_320) rfl  k) ?_
        refine own_callS X53 hx hZ (y := (⟨"com/example/templum/templum/validation/Utf8DecodePinLaw", "in", "(III)Z"⟩ : MethodName)) (W := 0) (argsL := [(.int c1), (.int (128 : Int32)), (.int (143 : Int32))]) (rest := []) hown (hw _ (List.mem_of_getElem? (i := 2) rfl)) (hw _ (List.mem_of_getElem? (i := 3) rfl)) (hw _ (List.mem_of_getElem? (i := 4) rfl)) (hw _ (List.mem_of_getElem? (i := 5) rfl)) (by decide) (own_bk (rm_in l Z a0 hw c1 (128 : Int32) (143 : Int32) h53 n0 ) hZ (hw _ (List.mem_of_getElem? (i := 5) rfl)) (hw _ (List.mem_of_getElem? (i := 4) rfl)) (by decide) (by decide)) e53 (g := (mkF m 322 #[.val (.int p1), .val (.int p2), .val (.int p3), .val (.int p4), .val (.int p5), .val (.int p6), .val (.int (4 : Int32)), .val (.int fu), .val (.int c1), .val (.int c2), .val (.int c3), .val (.int off), .val (.ref b48), .unset, .unset, .val (.int (128 : Int32)), .val (.int (143 : Int32))] [(.int (143 : Int32)), (.int (128 : Int32)), (.int c1)])) rfl (by rw [hml]; rfl) (lenOf pd_0 rfl) rfl (by show 2 * 0 + _ ≤ _; exact Nat.le_of_eq rfl) (hb hby at_322) (by decide) (by decide) (fun v76 T76 h76 L76 X76 e76 q76 => ?_)
        obtain ⟨rfl, M76, s76⟩ := q76
        replace e76 : T76.heap = h53 := e76.trans s76
        have N76 := Fr.app N53 M76
        by_cases hc325 : (own_in c1 (128 : Int32) (143 : Int32)) = (0 : Int32)
        · refine own_go (fun t k => XS.ifYes X76.here hx rfl (pc0 := 325) (pc' := 360) rfl (hb hby at_325) rfl ((if0 _ _).trans (teq hc325).1) (by decide) (by decide) k) ?_
          refine own_go (fun t k => XS.iconst X76.here hx rfl (hb hby at_360) k) ?_
          have F77 : Old Z n0 h53 := (((((O0.ext E48).wr W50 (Nat.le_trans Z0 (Nat.le_of_eq g48.symm))).wr W51 (Nat.le_trans Z0 (Nat.le_of_eq g48.symm))).wr W52 (Nat.le_trans Z0 (Nat.le_of_eq g48.symm))).wr W53 (Nat.le_trans Z0 (Nat.le_of_eq g48.symm)))
          exact J361_54 (0 : Int32) (.val (.int (128 : Int32))) (.val (.int (143 : Int32))) T76 h53 _ _ _ X76 e76 N76 (by decide) (by decide) V53 F77 (by unfold own_ok4; rw [if_neg hc283, if_pos hc302, if_pos hc325]) (One.val rfl) (One.val rfl)
        · refine own_go (fun t k => XS.ifNo X76.here hx rfl (hb hby at_325) rfl ((if0 _ _).trans (feq hc325).1) k) ?_
          show own_Run p e below Φ (T76.setTop (mkF m 328 #[.val (.int p1), .val (.int p2), .val (.int p3), .val (.int p4), .val (.int p5), .val (.int p6), .val (.int (4 : Int32)), .val (.int fu), .val (.int c1), .val (.int c2), .val (.int c3), .val (.int off), .val (.ref b48), .unset, .unset, .val (.int (128 : Int32)), .val (.int (143 : Int32))] []))
          refine own_go (fun t k => XS.iload X76.here hx rfl (hb hby at_328) rfl  k) ?_
          refine own_go (fun t k => XS.sipush X76.here hx rfl (hb hby at_330) k) ?_
          refine own_go (fun t k => XS.sipush X76.here hx rfl (hb hby at_333) k) ?_
          refine own_callS X76 hx hZ (y := (⟨"com/example/templum/templum/validation/Utf8DecodePinLaw", "in", "(III)Z"⟩ : MethodName)) (W := 0) (argsL := [(.int c2), (.int (128 : Int32)), (.int (191 : Int32))]) (rest := []) hown (hw _ (List.mem_of_getElem? (i := 2) rfl)) (hw _ (List.mem_of_getElem? (i := 3) rfl)) (hw _ (List.mem_of_getElem? (i := 4) rfl)) (hw _ (List.mem_of_getElem? (i := 5) rfl)) (by decide) (own_bk (rm_in l Z a0 hw c2 (128 : Int32) (191 : Int32) h53 n0 ) hZ (hw _ (List.mem_of_getElem? (i := 5) rfl)) (hw _ (List.mem_of_getElem? (i := 4) rfl)) (by decide) (by decide)) e76 (g := (mkF m 336 #[.val (.int p1), .val (.int p2), .val (.int p3), .val (.int p4), .val (.int p5), .val (.int p6), .val (.int (4 : Int32)), .val (.int fu), .val (.int c1), .val (.int c2), .val (.int c3), .val (.int off), .val (.ref b48), .unset, .unset, .val (.int (128 : Int32)), .val (.int (143 : Int32))] [(.int (191 : Int32)), (.int (128 : Int32)), (.int c2)])) rfl (by rw [hml]; rfl) (lenOf pd_0 rfl) rfl (by show 2 * 0 + _ ≤ _; exact Nat.le_of_eq rfl) (hb hby at_336) (by decide) (by decide) (fun v78 T78 h78 L78 X78 e78 q78 => ?_)
          obtain ⟨rfl, M78, s78⟩ := q78
          replace e78 : T78.heap = h53 := e78.trans s78
          have N78 := Fr.app N76 M78
          by_cases hc339 : (own_in c2 (128 : Int32) (191 : Int32)) = (0 : Int32)
          · refine own_go (fun t k => XS.ifYes X78.here hx rfl (pc0 := 339) (pc' := 360) rfl (hb hby at_339) rfl ((if0 _ _).trans (teq hc339).1) (by decide) (by decide) k) ?_
            show own_Run p e below Φ (T78.setTop (mkF m 360 #[.val (.int p1), .val (.int p2), .val (.int p3), .val (.int p4), .val (.int p5), .val (.int p6), .val (.int (4 : Int32)), .val (.int fu), .val (.int c1), .val (.int c2), .val (.int c3), .val (.int off), .val (.ref b48), .unset, .unset, .val (.int (128 : Int32)), .val (.int (143 : Int32))] []))
            refine own_go (fun t k => XS.iconst X78.here hx rfl (hb hby at_360) k) ?_
            have F79 : Old Z n0 h53 := (((((O0.ext E48).wr W50 (Nat.le_trans Z0 (Nat.le_of_eq g48.symm))).wr W51 (Nat.le_trans Z0 (Nat.le_of_eq g48.symm))).wr W52 (Nat.le_trans Z0 (Nat.le_of_eq g48.symm))).wr W53 (Nat.le_trans Z0 (Nat.le_of_eq g48.symm)))
            exact J361_54 (0 : Int32) (.val (.int (128 : Int32))) (.val (.int (143 : Int32))) T78 h53 _ _ _ X78 e78 N78 (by decide) (by decide) V53 F79 (by unfold own_ok4; rw [if_neg hc283, if_pos hc302, if_neg hc325, if_pos hc339]) (One.val rfl) (One.val rfl)
          · refine own_go (fun t k => XS.ifNo X78.here hx rfl (hb hby at_339) rfl ((if0 _ _).trans (feq hc339).1) k) ?_
            refine own_go (fun t k => XS.iload X78.here hx rfl (hb hby at_342) rfl  k) ?_
            refine own_go (fun t k => XS.sipush X78.here hx rfl (hb hby at_344) k) ?_
            refine own_go (fun t k => XS.sipush X78.here hx rfl (hb hby at_347) k) ?_
            refine own_callS X78 hx hZ (y := (⟨"com/example/templum/templum/validation/Utf8DecodePinLaw", "in", "(III)Z"⟩ : MethodName)) (W := 0) (argsL := [(.int c3), (.int (128 : Int32)), (.int (191 : Int32))]) (rest := []) hown (hw _ (List.mem_of_getElem? (i := 2) rfl)) (hw _ (List.mem_of_getElem? (i := 3) rfl)) (hw _ (List.mem_of_getElem? (i := 4) rfl)) (hw _ (List.mem_of_getElem? (i := 5) rfl)) (by decide) (own_bk (rm_in l Z a0 hw c3 (128 : Int32) (191 : Int32) h53 n0 ) hZ (hw _ (List.mem_of_getElem? (i := 5) rfl)) (hw _ (List.mem_of_getElem? (i := 4) rfl)) (by decide) (by decide)) e78 (g := (mkF m 350 #[.val (.int p1), .val (.int p2), .val (.int p3), .val (.int p4), .val (.int p5), .val (.int p6), .val (.int (4 : Int32)), .val (.int fu), .val (.int c1), .val (.int c2), .val (.int c3), .val (.int off), .val (.ref b48), .unset, .unset, .val (.int (128 : Int32)), .val (.int (143 : Int32))] [(.int (191 : Int32)), (.int (128 : Int32)), (.int c3)])) rfl (by rw [hml]; rfl) (lenOf pd_0 rfl) rfl (by show 2 * 0 + _ ≤ _; exact Nat.le_of_eq rfl) (hb hby at_350) (by decide) (by decide) (fun v80 T80 h80 L80 X80 e80 q80 => ?_)
            obtain ⟨rfl, M80, s80⟩ := q80
            replace e80 : T80.heap = h53 := e80.trans s80
            have N80 := Fr.app N78 M80
            show own_Run p e below Φ (T80.setTop (mkF m 353 #[.val (.int p1), .val (.int p2), .val (.int p3), .val (.int p4), .val (.int p5), .val (.int p6), .val (.int (4 : Int32)), .val (.int fu), .val (.int c1), .val (.int c2), .val (.int c3), .val (.int off), .val (.ref b48), .unset, .unset, .val (.int (128 : Int32)), .val (.int (143 : Int32))] [(.int (own_in c3 (128 : Int32) (191 : Int32)))]))
            by_cases hc353 : (own_in c3 (128 : Int32) (191 : Int32)) = (0 : Int32)
            · refine own_go (fun t k => XS.ifYes X80.here hx rfl (pc0 := 353) (pc' := 360) rfl (hb hby at_353) rfl ((if0 _ _).trans (teq hc353).1) (by decide) (by decide) k) ?_
              refine own_go (fun t k => XS.iconst X80.here hx rfl (hb hby at_360) k) ?_
              have F81 : Old Z n0 h53 := (((((O0.ext E48).wr W50 (Nat.le_trans Z0 (Nat.le_of_eq g48.symm))).wr W51 (Nat.le_trans Z0 (Nat.le_of_eq g48.symm))).wr W52 (Nat.le_trans Z0 (Nat.le_of_eq g48.symm))).wr W53 (Nat.le_trans Z0 (Nat.le_of_eq g48.symm)))
              exact J361_54 (0 : Int32) (.val (.int (128 : Int32))) (.val (.int (143 : Int32))) T80 h53 _ _ _ X80 e80 N80 (by decide) (by decide) V53 F81 (by unfold own_ok4; rw [if_neg hc283, if_pos hc302, if_neg hc325, if_neg hc339, if_pos hc353]) (One.val rfl) (One.val rfl)
            · refine own_go (fun t k => XS.ifNo X80.here hx rfl (hb hby at_353) rfl ((if0 _ _).trans (feq hc353).1) k) ?_
              refine own_go (fun t k => XS.iconst X80.here hx rfl (hb hby at_356) k) ?_
              refine own_go (fun t k => XS.goto X80.here hx rfl (pc0 := 357) (pc' := 361) rfl (hb hby at_357) (by decide) (by decide) k) ?_
              have F82 : Old Z n0 h53 := (((((O0.ext E48).wr W50 (Nat.le_trans Z0 (Nat.le_of_eq g48.symm))).wr W51 (Nat.le_trans Z0 (Nat.le_of_eq g48.symm))).wr W52 (Nat.le_trans Z0 (Nat.le_of_eq g48.symm))).wr W53 (Nat.le_trans Z0 (Nat.le_of_eq g48.symm)))
              exact J361_54 (1 : Int32) (.val (.int (128 : Int32))) (.val (.int (143 : Int32))) T80 h53 _ _ _ X80 e80 N80 (by decide) (by decide) V53 F82 (by unfold own_ok4; rw [if_neg hc283, if_pos hc302, if_neg hc325, if_neg hc339, if_neg hc353]) (One.val rfl) (One.val rfl)
      · refine own_go (fun t k => XS.icmpYes X53.here hx rfl (pc0 := 302) (pc' := 311) rfl (hb hby at_302) rfl (feq hc302).2 (by decide) (by decide) k) ?_
        refine own_go (fun t k => XS.sipush X53.here hx rfl (hb hby at_311) k) ?_
        show own_Run p e below Φ (T53.setTop (mkF m 314 #[.val (.int p1), .val (.int p2), .val (.int p3), .val (.int p4), .val (.int p5), .val (.int p6), .val (.int (4 : Int32)), .val (.int fu), .val (.int c1), .val (.int c2), .val (.int c3), .val (.int off), .val (.ref b48), .unset, .unset, .val (.int (128 : Int32)), .unset] [(.int (191 : Int32))]))
        refine own_go (fun t k => XS.istore X53.here hx rfl (hb hby at_314) rfl (l' := #[.val (.int p1), .val (.int p2), .val (.int p3), .val (.int p4), .val (.int p5), .val (.int p6), .val (.int (4 : Int32)), .val (.int fu), .val (.int c1), .val (.int c2), .val (.int c3), .val (.int off), .val (.ref b48), .unset, .unset, .val (.int (128 : Int32)), .val (.int (191 : Int32))]) rfl k) ?_
        refine own_go (fun t k => XS.iload X53.here hx rfl (hb hby at_316) rfl  k) ?_
        refine own_go (fun t k => XS.iload X53.here hx rfl (hb hby at_318) rfl  k) ?_
        refine own_go (fun t k => XS.iload X53.here hx rfl (hb hby at_320) rfl  k) ?_
        refine own_callS X53 hx hZ (y := (⟨"com/example/templum/templum/validation/Utf8DecodePinLaw", "in", "(III)Z"⟩ : MethodName)) (W := 0) (argsL := [(.int c1), (.int (128 : Int32)), (.int (191 : Int32))]) (rest := []) hown (hw _ (List.mem_of_getElem? (i := 2) rfl)) (hw _ (List.mem_of_getElem? (i := 3) rfl)) (hw _ (List.mem_of_getElem? (i := 4) rfl)) (hw _ (List.mem_of_getElem? (i := 5) rfl)) (by decide) (own_bk (rm_in l Z a0 hw c1 (128 : Int32) (191 : Int32) h53 n0 ) hZ (hw _ (List.mem_of_getElem? (i := 5) rfl)) (hw _ (List.mem_of_getElem? (i := 4) rfl)) (by decide) (by decide)) e53 (g := (mkF m 322 #[.val (.int p1), .val (.int p2), .val (.int p3), .val (.int p4), .val (.int p5), .val (.int p6), .val (.int (4 : Int32)), .val (.int fu), .val (.int c1), .val (.int c2), .val (.int c3), .val (.int off), .val (.ref b48), .unset, .unset, .val (.int (128 : Int32)), .val (.int (191 : Int32))] [(.int (191 : Int32)), (.int (128 : Int32)), (.int c1)])) rfl (by rw [hml]; rfl) (lenOf pd_0 rfl) rfl (by show 2 * 0 + _ ≤ _; exact Nat.le_of_eq rfl) (hb hby at_322) (by decide) (by decide) (fun v83 T83 h83 L83 X83 e83 q83 => ?_)
        obtain ⟨rfl, M83, s83⟩ := q83
        replace e83 : T83.heap = h53 := e83.trans s83
        have N83 := Fr.app N53 M83
        show own_Run p e below Φ (T83.setTop (mkF m 325 #[.val (.int p1), .val (.int p2), .val (.int p3), .val (.int p4), .val (.int p5), .val (.int p6), .val (.int (4 : Int32)), .val (.int fu), .val (.int c1), .val (.int c2), .val (.int c3), .val (.int off), .val (.ref b48), .unset, .unset, .val (.int (128 : Int32)), .val (.int (191 : Int32))] [(.int (own_in c1 (128 : Int32) (191 : Int32)))]))
        by_cases hc325 : (own_in c1 (128 : Int32) (191 : Int32)) = (0 : Int32)
        · refine own_go (fun t k => XS.ifYes X83.here hx rfl (pc0 := 325) (pc' := 360) rfl (hb hby at_325) rfl ((if0 _ _).trans (teq hc325).1) (by decide) (by decide) k) ?_
          refine own_go (fun t k => XS.iconst X83.here hx rfl (hb hby at_360) k) ?_
          have F84 : Old Z n0 h53 := (((((O0.ext E48).wr W50 (Nat.le_trans Z0 (Nat.le_of_eq g48.symm))).wr W51 (Nat.le_trans Z0 (Nat.le_of_eq g48.symm))).wr W52 (Nat.le_trans Z0 (Nat.le_of_eq g48.symm))).wr W53 (Nat.le_trans Z0 (Nat.le_of_eq g48.symm)))
          exact J361_54 (0 : Int32) (.val (.int (128 : Int32))) (.val (.int (191 : Int32))) T83 h53 _ _ _ X83 e83 N83 (by decide) (by decide) V53 F84 (by unfold own_ok4; rw [if_neg hc283, if_neg hc302, if_pos hc325]) (One.val rfl) (One.val rfl)
        · refine own_go (fun t k => XS.ifNo X83.here hx rfl (hb hby at_325) rfl ((if0 _ _).trans (feq hc325).1) k) ?_
          refine own_go (fun t k => XS.iload X83.here hx rfl (hb hby at_328) rfl  k) ?_
          refine own_go (fun t k => XS.sipush X83.here hx rfl (hb hby at_330) k) ?_
          refine own_go (fun t k => XS.sipush X83.here hx rfl (hb hby at_333) k) ?_
          show own_Run p e below Φ (T83.setTop (mkF m 336 #[.val (.int p1), .val (.int p2), .val (.int p3), .val (.int p4), .val (.int p5), .val (.int p6), .val (.int (4 : Int32)), .val (.int fu), .val (.int c1), .val (.int c2), .val (.int c3), .val (.int off), .val (.ref b48), .unset, .unset, .val (.int (128 : Int32)), .val (.int (191 : Int32))] [(.int (191 : Int32)), (.int (128 : Int32)), (.int c2)]))
          refine own_callS X83 hx hZ (y := (⟨"com/example/templum/templum/validation/Utf8DecodePinLaw", "in", "(III)Z"⟩ : MethodName)) (W := 0) (argsL := [(.int c2), (.int (128 : Int32)), (.int (191 : Int32))]) (rest := []) hown (hw _ (List.mem_of_getElem? (i := 2) rfl)) (hw _ (List.mem_of_getElem? (i := 3) rfl)) (hw _ (List.mem_of_getElem? (i := 4) rfl)) (hw _ (List.mem_of_getElem? (i := 5) rfl)) (by decide) (own_bk (rm_in l Z a0 hw c2 (128 : Int32) (191 : Int32) h53 n0 ) hZ (hw _ (List.mem_of_getElem? (i := 5) rfl)) (hw _ (List.mem_of_getElem? (i := 4) rfl)) (by decide) (by decide)) e83 (g := (mkF m 336 #[.val (.int p1), .val (.int p2), .val (.int p3), .val (.int p4), .val (.int p5), .val (.int p6), .val (.int (4 : Int32)), .val (.int fu), .val (.int c1), .val (.int c2), .val (.int c3), .val (.int off), .val (.ref b48), .unset, .unset, .val (.int (128 : Int32)), .val (.int (191 : Int32))] [(.int (191 : Int32)), (.int (128 : Int32)), (.int c2)])) rfl (by rw [hml]; rfl) (lenOf pd_0 rfl) rfl (by show 2 * 0 + _ ≤ _; exact Nat.le_of_eq rfl) (hb hby at_336) (by decide) (by decide) (fun v85 T85 h85 L85 X85 e85 q85 => ?_)
          obtain ⟨rfl, M85, s85⟩ := q85
          replace e85 : T85.heap = h53 := e85.trans s85
          have N85 := Fr.app N83 M85
          by_cases hc339 : (own_in c2 (128 : Int32) (191 : Int32)) = (0 : Int32)
          · refine own_go (fun t k => XS.ifYes X85.here hx rfl (pc0 := 339) (pc' := 360) rfl (hb hby at_339) rfl ((if0 _ _).trans (teq hc339).1) (by decide) (by decide) k) ?_
            refine own_go (fun t k => XS.iconst X85.here hx rfl (hb hby at_360) k) ?_
            have F86 : Old Z n0 h53 := (((((O0.ext E48).wr W50 (Nat.le_trans Z0 (Nat.le_of_eq g48.symm))).wr W51 (Nat.le_trans Z0 (Nat.le_of_eq g48.symm))).wr W52 (Nat.le_trans Z0 (Nat.le_of_eq g48.symm))).wr W53 (Nat.le_trans Z0 (Nat.le_of_eq g48.symm)))
            exact J361_54 (0 : Int32) (.val (.int (128 : Int32))) (.val (.int (191 : Int32))) T85 h53 _ _ _ X85 e85 N85 (by decide) (by decide) V53 F86 (by unfold own_ok4; rw [if_neg hc283, if_neg hc302, if_neg hc325, if_pos hc339]) (One.val rfl) (One.val rfl)
          · refine own_go (fun t k => XS.ifNo X85.here hx rfl (hb hby at_339) rfl ((if0 _ _).trans (feq hc339).1) k) ?_
            refine own_go (fun t k => XS.iload X85.here hx rfl (hb hby at_342) rfl  k) ?_
            refine own_go (fun t k => XS.sipush X85.here hx rfl (hb hby at_344) k) ?_
            show own_Run p e below Φ (T85.setTop (mkF m 347 #[.val (.int p1), .val (.int p2), .val (.int p3), .val (.int p4), .val (.int p5), .val (.int p6), .val (.int (4 : Int32)), .val (.int fu), .val (.int c1), .val (.int c2), .val (.int c3), .val (.int off), .val (.ref b48), .unset, .unset, .val (.int (128 : Int32)), .val (.int (191 : Int32))] [(.int (128 : Int32)), (.int c3)]))
            refine own_go (fun t k => XS.sipush X85.here hx rfl (hb hby at_347) k) ?_
            refine own_callS X85 hx hZ (y := (⟨"com/example/templum/templum/validation/Utf8DecodePinLaw", "in", "(III)Z"⟩ : MethodName)) (W := 0) (argsL := [(.int c3), (.int (128 : Int32)), (.int (191 : Int32))]) (rest := []) hown (hw _ (List.mem_of_getElem? (i := 2) rfl)) (hw _ (List.mem_of_getElem? (i := 3) rfl)) (hw _ (List.mem_of_getElem? (i := 4) rfl)) (hw _ (List.mem_of_getElem? (i := 5) rfl)) (by decide) (own_bk (rm_in l Z a0 hw c3 (128 : Int32) (191 : Int32) h53 n0 ) hZ (hw _ (List.mem_of_getElem? (i := 5) rfl)) (hw _ (List.mem_of_getElem? (i := 4) rfl)) (by decide) (by decide)) e85 (g := (mkF m 350 #[.val (.int p1), .val (.int p2), .val (.int p3), .val (.int p4), .val (.int p5), .val (.int p6), .val (.int (4 : Int32)), .val (.int fu), .val (.int c1), .val (.int c2), .val (.int c3), .val (.int off), .val (.ref b48), .unset, .unset, .val (.int (128 : Int32)), .val (.int (191 : Int32))] [(.int (191 : Int32)), (.int (128 : Int32)), (.int c3)])) rfl (by rw [hml]; rfl) (lenOf pd_0 rfl) rfl (by show 2 * 0 + _ ≤ _; exact Nat.le_of_eq rfl) (hb hby at_350) (by decide) (by decide) (fun v87 T87 h87 L87 X87 e87 q87 => ?_)
            obtain ⟨rfl, M87, s87⟩ := q87
            replace e87 : T87.heap = h53 := e87.trans s87
            have N87 := Fr.app N85 M87
            by_cases hc353 : (own_in c3 (128 : Int32) (191 : Int32)) = (0 : Int32)
            · refine own_go (fun t k => XS.ifYes X87.here hx rfl (pc0 := 353) (pc' := 360) rfl (hb hby at_353) rfl ((if0 _ _).trans (teq hc353).1) (by decide) (by decide) k) ?_
              refine own_go (fun t k => XS.iconst X87.here hx rfl (hb hby at_360) k) ?_
              have F88 : Old Z n0 h53 := (((((O0.ext E48).wr W50 (Nat.le_trans Z0 (Nat.le_of_eq g48.symm))).wr W51 (Nat.le_trans Z0 (Nat.le_of_eq g48.symm))).wr W52 (Nat.le_trans Z0 (Nat.le_of_eq g48.symm))).wr W53 (Nat.le_trans Z0 (Nat.le_of_eq g48.symm)))
              exact J361_54 (0 : Int32) (.val (.int (128 : Int32))) (.val (.int (191 : Int32))) T87 h53 _ _ _ X87 e87 N87 (by decide) (by decide) V53 F88 (by unfold own_ok4; rw [if_neg hc283, if_neg hc302, if_neg hc325, if_neg hc339, if_pos hc353]) (One.val rfl) (One.val rfl)
            · refine own_go (fun t k => XS.ifNo X87.here hx rfl (hb hby at_353) rfl ((if0 _ _).trans (feq hc353).1) k) ?_
              refine own_go (fun t k => XS.iconst X87.here hx rfl (hb hby at_356) k) ?_
              show own_Run p e below Φ (T87.setTop (mkF m 357 #[.val (.int p1), .val (.int p2), .val (.int p3), .val (.int p4), .val (.int p5), .val (.int p6), .val (.int (4 : Int32)), .val (.int fu), .val (.int c1), .val (.int c2), .val (.int c3), .val (.int off), .val (.ref b48), .unset, .unset, .val (.int (128 : Int32)), .val (.int (191 : Int32))] [(.int (1 : Int32))]))
              refine own_go (fun t k => XS.goto X87.here hx rfl (pc0 := 357) (pc' := 361) rfl (hb hby at_357) (by decide) (by decide) k) ?_
              have F89 : Old Z n0 h53 := (((((O0.ext E48).wr W50 (Nat.le_trans Z0 (Nat.le_of_eq g48.symm))).wr W51 (Nat.le_trans Z0 (Nat.le_of_eq g48.symm))).wr W52 (Nat.le_trans Z0 (Nat.le_of_eq g48.symm))).wr W53 (Nat.le_trans Z0 (Nat.le_of_eq g48.symm)))
              exact J361_54 (1 : Int32) (.val (.int (128 : Int32))) (.val (.int (191 : Int32))) T87 h53 _ _ _ X87 e87 N87 (by decide) (by decide) V53 F89 (by unfold own_ok4; rw [if_neg hc283, if_neg hc302, if_neg hc325, if_neg hc339, if_neg hc353]) (One.val rfl) (One.val rfl)
set_option maxRecDepth 65536 in
set_option maxHeartbeats 40000000 in
theorem comes_1 {Post : Tables → Env → Array Value → State → Outcome → State → Prop} (hpost : ∀ tb e args s v u, (limb_1_1.after args s (.returned v) u = true ∧ limb_1_2.after args s (.returned v) u = true ∧ True) → FrameEnd s (.returned v) u (Jvm.fieldLocs frame_1_writes args s ++ Jvm.arrayLocs frame_1_arrays args s ++ Jvm.staticLocs frame_1_statics s) 16 128 → Post tb e args s (.returned v) u) :
    ArmFor flags0 classFile x code maxLocals ret World_1 tables_1 room_1 Calls_1 rest_1 Pre_1 Post := by
  intro l hfl _ _ p e ha hc hk s m args below hf hA hF happ hP
  obtain ⟨hcalls, hrest, hpre⟩ := hP
  obtain ⟨-, -, -, hnamed, -, -, -, hat⟩ := (Spec.applies_iff hf).mp happ
  obtain ⟨hg, hn⟩ := and_e (Cond.before_iff.mp (show (Jvm.Cond.and given_1 narrow_1).before args s = true from hpre))
  obtain ⟨hcount, hg⟩ := and_e hg
  obtain ⟨ha0, hg⟩ := and_e hg
  obtain ⟨ha1, hg⟩ := and_e hg
  obtain ⟨ha2, hg⟩ := and_e hg
  obtain ⟨ha3, hg⟩ := and_e hg
  obtain ⟨ha4, hg⟩ := and_e hg
  have ha5 := hg
  obtain ⟨w0, w1, w2, w3, w4, w5, rfl⟩ : ∃ w0 w1 w2 w3 w4 w5 : Value, args = #[w0, w1, w2, w3, w4, w5] := by
    have hs : args.size = 6 := by simpa [Cond.value, given_1] using hcount
    obtain ⟨L⟩ := args
    match L, hs with
    | [w0, w1, w2, w3, w4, w5], _ => exact ⟨w0, w1, w2, w3, w4, w5, rfl⟩
  have hw := fun d (hd : d ∈ tables_1) => atoms_spec (ws := Jvm.Cond.code x code maxLocals ret :: tables_1) hat d (List.mem_cons_of_mem _ hd)
  have hfit : Fit s := fun {y c} hc i hi => by
    obtain ⟨ha, rfl⟩ := Array.getElem?_eq_some_iff.mp hc
    have q := List.all_eq_true.mp ((Array.all_eq_true_iff_forall_mem.mp hF) _ (Array.getElem_mem ha)) i (List.mem_range.mpr hi)
    simpa [Array.getElem?_eq_getElem hi] using q
  obtain ⟨i0, ei0⟩ := is_v ha0
  obtain rfl : w0 = (.int i0) := Option.some.inj ei0
  obtain ⟨i1, ei1⟩ := is_v ha1
  obtain rfl : w1 = (.int i1) := Option.some.inj ei1
  obtain ⟨i2, ei2⟩ := is_v ha2
  obtain rfl : w2 = (.int i2) := Option.some.inj ei2
  obtain ⟨i3, ei3⟩ := is_v ha3
  obtain rfl : w3 = (.int i3) := Option.some.inj ei3
  obtain ⟨i4, ei4⟩ := is_v ha4
  obtain rfl : w4 = (.int i4) := Option.some.inj ei4
  obtain ⟨i5, ei5⟩ := is_v ha5
  obtain rfl : w5 = (.int i5) := Option.some.inj ei5
  obtain ⟨hn0, hn⟩ := and_e hn
  obtain ⟨hn1, hn⟩ := and_e hn
  obtain ⟨hn2, hn⟩ := and_e hn
  obtain ⟨hn3, hn⟩ := and_e hn
  obtain ⟨hn4, hn⟩ := and_e hn
  obtain ⟨hn5, hn⟩ := and_e hn
  have hn6 := hn
  obtain ⟨u1, eu1⟩ := arr_v hn0
  have S0 := Sta.start eu1 (Or.inr ⟨hw _ (List.mem_of_getElem? (i := 8) rfl), hw _ (List.mem_of_getElem? (i := 11) rfl)⟩)
  obtain ⟨cu, A0⟩ := Arr.start eu1 hn0
  obtain ⟨len0, len1, len2⟩ := own_len eu1 A0 hn1
  have el0 := (elem_in (own_eqI hn2) eu1 rfl A0.1).2
  have el1 := (elem_in (own_eqI hn3) eu1 rfl A0.1).2
  have el2 := (elem_in (own_eqI hn4) eu1 rfl A0.1).2
  have el3 := (elem_in (own_eqI hn5) eu1 rfl A0.1).2
  have el4 := (elem_in (own_eqI hn6) eu1 rfl A0.1).2
  have V0 : Arv s s.heap u1 cu.cls .int (5 : Int32) [(.int (0 : Int32)), (.int (0 : Int32)), (.int (128 : Int32)), (.int (2048 : Int32)), (.int (65536 : Int32))] (.int (0 : Int32)) := Arv.start hfit A0 len1 len2 (by decide) rfl ⟨el0, el1, el2, el3, el4, trivial⟩
  obtain ⟨n, o, h1, h2, h3, _, L, rfl, ⟨rfl, N⟩, hq⟩ := rm_law l s _ hw i0 i1 i2 i3 i4 i5 u1 cu.cls s.heap s.heap.size (Nat.le_refl _) (Old.start s) S0 V0 tables_1 p e ha hc hk s m _ below hf ((Spec.applies_iff_loose hf).mp happ).1 ⟨rfl, State.Warmed39.refl s, rfl⟩ trivial
  refine ⟨n, _, h1, h2, h3, hpost _ _ _ _ _ _ ⟨Cond.after_iff.mpr rfl, Cond.after_iff.mpr (eq_i res_at (Term.int_eval (1)) rfl), trivial⟩ ⟨hq.1, hq.2.1, (hq.2.2.sift fun y hy => Or.inr (N y hy)).mono (by decide) (by decide)⟩⟩
theorem main_1_1 : Claimed_1_1 := comes_1 fun _ _ _ _ _ _ h hF => ⟨h.1, hF⟩
theorem main_1_2 : Claimed_1_2 := comes_1 fun _ _ _ _ _ _ h hF => ⟨h.2.1, hF⟩
end Jvm.Pilot.@@N@@
namespace Jvm.Pilot.@@N@@
open Jvm Jvm.ClassFile Sem Op Lib Jvm.Free Jvm.Stand Jvm.Pilot.@@N@@.Jvm.D
/-! MADE BY PROGRAM (witnessworld.py) out of the Statement's table words and the real class files: 9 classes; the members and pool entries that the words name. The judged class is class 1, her method 2. -/
namespace start1
open Jvm.ClassFile
def u (s : String) : CpInfo := .utf8 (stringToUtf16 s)
/-- a pool by its gaps: so many unusable entries, then the entry; so many at the end -/
def gap : Nat → List CpInfo → List CpInfo
  | 0, r => r
  | n + 1, r => .unusable :: gap n r
def poolList (es : List (Nat × CpInfo)) (last : Nat) : List CpInfo := es.foldr (fun e r => gap e.1 (e.2 :: r)) (gap last [])
def pool (es : List (Nat × CpInfo)) (last : Nat) : Array CpInfo := ⟨poolList es last⟩
def fileOf (pool : Array CpInfo) (this : Nat) (attrs : Array Attribute := #[]) (ms : Array MethodInfo := #[]) (fl : Nat := 33) (sup : Nat := 0) (ifs : Array Nat := #[]) (fds : Array FieldInfo := #[]) : ClassFile where
  minorVersion := 0
  majorVersion := 65
  constantPool := pool
  accessFlags := fl
  thisClass := this
  superClass := sup
  interfaces := ifs
  fields := fds
  methods := ms
  attributes := attrs
def plain (name : String) (sup : Option ClassId) : Class where
  name := name
  kind := .ordinary
  loader := none
  accessFlags := 33
  super := sup
  interfaces := #[]
  cf := none
  fields := #[]
  methods := #[]
  instanceTypes := #[]
  staticTypes := #[]
  resolved := #[]
  callSites := []
  init := .initialized
  statics := none
  mirror := none

def pool0 : Array CpInfo := pool [(5, u "<init>"), (0, u "()V"), (1, .class_ 10), (1, u "java/lang/Object")] 113

def k0m0 : Method := { name := "<init>", desc := "()V", sig := { parameters := [], returnType := none }, accessFlags := 1, code := none }
/-- java/lang/Object -/
def k0 : Class := { plain "java/lang/Object" none with
  accessFlags := 33
  interfaces := #[]
  cf := some (fileOf pool0 8 #[] #[{ accessFlags := 1, nameIndex := 5, descriptorIndex := 6, attributes := #[] }] 33 0 #[] #[])
  fields := #[]
  methods := #[k0m0]
  instanceTypes := #[]
  staticTypes := #[]
  resolved := Array.replicate 124 none
  statics := none }

def pool1 : Array CpInfo := pool [(2, .class_ 4), (1, u "java/lang/Object"), (0, u "<init>"), (0, u "()V"), (0, .integer 2147483647), (0, .methodref 9 10), (0, .class_ 11), (0, .nameAndType 12 13), (0, u "com/example/templum/templum/validation/Utf8DecodePinLaw"), (0, u "in"), (0, u "(III)Z"), (0, .methodref 15 16), (0, .class_ 17), (0, .nameAndType 18 19), (0, u "com/example/templum/templum/validation/Utf8"), (0, u "decode"), (0, u "([BII)I"), (3, u "law"), (0, u "(IIIIII)Z")] 4

def k1m0 : Method := { name := "<init>", desc := "()V", sig := { parameters := [], returnType := none }, accessFlags := 2, code := none }
def k1c1 : Code := { maxStack := 2, maxLocals := 3, code := method_2_code, exceptionTable := #[], attributes := #[] }
def k1m1 : Method := { name := "in", desc := "(III)Z", sig := { parameters := [.int, .int, .int], returnType := some .boolean }, accessFlags := 10, code := some k1c1 }
def k1c2 : Code := { maxStack := 3, maxLocals := 17, code := code, exceptionTable := #[], attributes := #[] }
def k1m2 : Method := { name := "law", desc := "(IIIIII)Z", sig := { parameters := [.int, .int, .int, .int, .int, .int], returnType := some .boolean }, accessFlags := 9, code := some k1c2 }
/-- com/example/templum/templum/validation/Utf8DecodePinLaw -/
def k1 : Class := { plain "com/example/templum/templum/validation/Utf8DecodePinLaw" (some 0) with
  accessFlags := 49
  interfaces := #[]
  cf := some (fileOf pool1 9 #[] #[{ accessFlags := 2, nameIndex := 5, descriptorIndex := 6, attributes := #[] }, { accessFlags := 10, nameIndex := 12, descriptorIndex := 13, attributes := #[] }, { accessFlags := 9, nameIndex := 23, descriptorIndex := 24, attributes := #[] }] 49 2 #[] #[])
  fields := #[]
  methods := #[k1m0, k1m1, k1m2]
  instanceTypes := #[]
  staticTypes := #[]
  resolved := Array.replicate 29 none
  statics := none }

def pool2 : Array CpInfo := pool [(2, .class_ 4), (1, u "java/lang/Object"), (0, u "<init>"), (0, u "()V"), (0, .fieldref 8 9), (0, .class_ 10), (0, .nameAndType 11 12), (0, u "com/example/templum/templum/validation/Utf8"), (0, u "LEAST_OF_LENGTH"), (0, u "[I"), (2, .integer 55296), (0, .integer 57343), (0, .integer 1114111), (6, u "decode"), (0, u "([BII)I")] 5

def k2m0 : Method := { name := "<init>", desc := "()V", sig := { parameters := [], returnType := none }, accessFlags := 2, code := none }
def k2c1 : Code := { maxStack := 3, maxLocals := 6, code := prog_118_method_3_code, exceptionTable := #[], attributes := #[] }
def k2m1 : Method := { name := "decode", desc := "([BII)I", sig := { parameters := [(.array .byte), .int, .int], returnType := some .int }, accessFlags := 8, code := some k2c1 }
/-- com/example/templum/templum/validation/Utf8 -/
def k2 : Class := { plain "com/example/templum/templum/validation/Utf8" (some 0) with
  accessFlags := 48
  interfaces := #[]
  cf := some (fileOf pool2 8 #[] #[{ accessFlags := 2, nameIndex := 5, descriptorIndex := 6, attributes := #[] }, { accessFlags := 8, nameIndex := 24, descriptorIndex := 25, attributes := #[] }] 48 2 #[] #[{ accessFlags := 26, nameIndex := 11, descriptorIndex := 12, attributes := #[] }])
  fields := #[{ name := "LEAST_OF_LENGTH", type := (.array .int), accessFlags := 26, slot := 0, constantValue := 0 }]
  methods := #[k2m0, k2m1]
  instanceTypes := #[]
  staticTypes := #[(.array .int)]
  resolved := Array.replicate 31 none
  statics := some 0 }

def pool3 : Array CpInfo := pool [(1, u "java/lang/Cloneable"), (0, .class_ 1), (0, u "java/lang/Object"), (0, .class_ 3)] 3

/-- java/lang/Cloneable -/
def k3 : Class := { plain "java/lang/Cloneable" (some 0) with
  accessFlags := 1537
  interfaces := #[]
  cf := some (fileOf pool3 2 #[] #[] 1537 4 #[] #[])
  fields := #[]
  methods := #[]
  instanceTypes := #[]
  staticTypes := #[]
  resolved := Array.replicate 8 none
  statics := none }

def pool4 : Array CpInfo := pool [(1, u "java/io/Serializable"), (0, .class_ 1), (0, u "java/lang/Object"), (0, .class_ 3)] 3

/-- java/io/Serializable -/
def k4 : Class := { plain "java/io/Serializable" (some 0) with
  accessFlags := 1537
  interfaces := #[]
  cf := some (fileOf pool4 2 #[] #[] 1537 4 #[] #[])
  fields := #[]
  methods := #[]
  instanceTypes := #[]
  staticTypes := #[]
  resolved := Array.replicate 8 none
  statics := none }

/-- the primitive byte -/
def k5 : Class := { plain "byte" none with kind := .primitive 'B', accessFlags := 0x411 }
/-- [B -/
def k6 : Class := { plain "[B" (some 0) with kind := .array 5 .byte, interfaces := #[3, 4], accessFlags := 1041 }

/-- the primitive int -/
def k7 : Class := { plain "int" none with kind := .primitive 'I', accessFlags := 0x411 }
/-- [I -/
def k8 : Class := { plain "[I" (some 0) with kind := .array 7 .int, interfaces := #[3, 4], accessFlags := 1041 }

def heap : Heap := #[{ cls := 2, slots := #[.ref 1], vm := .statics 2 },
  { cls := 8, slots := #[.int 0, .int 0, .int 128, .int 2048, .int 65536], vm := .none }]
def classes : Array Class := #[k0, k1, k2, k3, k4, k5, k6, k7, k8]
def interned : List (Array UInt16 × Addr) := []
def slotsUsed : Nat := 6
def theMethod : MethodId := ⟨1, 2⟩
def args0 : Array Value := #[.int 5, .int 7, .int 9, .int 11, .int 13, .int 15]
def aboutOver (below : List Frame) : State where
  vm := { classes := classes, interned := interned.toArray }
  heap := heap
  slotsUsed := slotsUsed
  threads := #[{ frames := .invoking theMethod args0 :: below }]
def below0 : List Frame := [.native { method := ⟨0, 0⟩, args := #[] }]
def about1 : State := aboutOver below0
def p0 : Program := .bare "" "" ""
def e0 : Env := launch0.env 0 0 0
theorem w_frames : about1.frames = Frame.invoking theMethod args0 :: below0 := rfl
set_option maxRecDepth 65536 in
theorem w_args : argsFit about1.vm theMethod args0 = true := by decide +kernel
set_option maxRecDepth 65536 in
theorem w_heap : heapFits about1 = true := by decide +kernel
set_option maxRecDepth 65536 in
theorem w_runnable : about1.curStatus? = some .runnable := by decide +kernel
set_option maxRecDepth 65536 in
theorem w_alone : about1.alone = true := by decide +kernel
set_option maxRecDepth 65536 in
theorem w_named : about1.methodNamed? x = some theMethod := by decide +kernel
set_option maxRecDepth 65536 in
theorem w_hears : about1.hears theMethod below0 = true := by decide +kernel
set_option maxRecDepth 65536 in
theorem w_ripe : about1.ripe theMethod args0 below0 = true := by decide +kernel
theorem w_running : about1.status = .running := rfl
set_option maxRecDepth 65536 in
theorem w_room : about1.hasRoom e0.platform room_1 = true :=
  launch0.hasRoom_least _ room_1 (by decide +kernel) (by decide +kernel) (by decide +kernel) (by decide +kernel) (by decide +kernel) (by decide +kernel)
theorem allAtoms_all (ts : List Jvm.Cond) (a : Array Jvm.Value) (st : Jvm.State) : (allAtoms ts).before a st = ts.all (fun c => c.before a st) := by
  induction ts with
  | nil => rfl
  | cons c t ih =>
    show (Jvm.Cond.and c (allAtoms t)).before a st = _
    rw [Jvm.Cond.before_and, ih, List.all_cons]
def words1 : List Jvm.Cond := Jvm.Cond.code x code maxLocals ret :: tables_1
/-- a 'code' word, met by the world's own term for the bytes: nothing is compared byte by byte -/
theorem code_word {y : MethodName} {bytes : ByteArray} {mx : Nat} {rt : Option FieldType} {a : Array Value} {s : State} {m : MethodId} {meth : Method} {c : Code} (h1 : s.methodNamed? y = some m) (h2 : s.vm.method? m = some meth) (h3 : meth.code = some c) (h4 : c.code = bytes)
    (h5 : (c.maxLocals == mx && c.exceptionTable.isEmpty && decide (c.maxStack ≤ mostOperands) && decide (meth.sig.returnType = rt) && !meth.locks && decide (parseMethodDescriptor y.desc = some meth.sig)) = true) : (Jvm.Cond.code y bytes mx rt).before a s = true := by
  simp only [Bool.and_eq_true, beq_iff_eq, Bool.not_eq_true', decide_eq_true_eq] at h5
  obtain ⟨⟨⟨⟨⟨g1, g2⟩, g3⟩, g4⟩, g5⟩, g6⟩ := h5
  simp [Cond.before, Cond.holds, Cond.value, h1, h2, h3, h4, g1, g2, g3, g4, g5, g6]
def isCode : Jvm.Cond → Bool
  | .code _ _ _ _ => true
  | _ => false
theorem all_split {L : List Jvm.Cond} {P : Jvm.Cond → Bool} (h1 : L.all (fun c => isCode c || P c) = true) (h2 : ∀ c ∈ L.filter isCode, P c = true) : L.all P = true := by
  refine List.all_eq_true.mpr fun c hc => ?_
  have h := List.all_eq_true.mp h1 c hc
  rcases Bool.eq_false_or_eq_true (isCode c) with hi | hi
  · exact h2 c (List.mem_filter.mpr ⟨hc, hi⟩)
  · simpa [hi] using h
set_option maxRecDepth 65536 in
theorem w_c0 : (Jvm.Cond.code x code maxLocals ret).before args0 about1 = true := code_word (m := ⟨1, 2⟩) (meth := k1m2) (c := k1c2) (by decide +kernel) rfl rfl rfl (by decide +kernel)
set_option maxRecDepth 65536 in
theorem w_c1 : (Jvm.Cond.code ({ cls := "com/example/templum/templum/validation/Utf8DecodePinLaw", name := "in", desc := "(III)Z" } : Jvm.MethodName) method_2_code (3 : Nat) (Option.some Jvm.ClassFile.FieldType.boolean)).before args0 about1 = true := code_word (m := ⟨1, 1⟩) (meth := k1m1) (c := k1c1) (by decide +kernel) rfl rfl rfl (by decide +kernel)
set_option maxRecDepth 65536 in
theorem w_c2 : (Jvm.Cond.code ({ cls := "com/example/templum/templum/validation/Utf8", name := "decode", desc := "([BII)I" } : Jvm.MethodName) prog_118_method_3_code (6 : Nat) (Option.some Jvm.ClassFile.FieldType.int)).before args0 about1 = true := code_word (m := ⟨2, 1⟩) (meth := k2m1) (c := k2c1) (by decide +kernel) rfl rfl rfl (by decide +kernel)
def codes1 : List Jvm.Cond := [Jvm.Cond.code x code maxLocals ret, Jvm.Cond.code ({ cls := "com/example/templum/templum/validation/Utf8DecodePinLaw", name := "in", desc := "(III)Z" } : Jvm.MethodName) method_2_code (3 : Nat) (Option.some Jvm.ClassFile.FieldType.boolean), Jvm.Cond.code ({ cls := "com/example/templum/templum/validation/Utf8", name := "decode", desc := "([BII)I" } : Jvm.MethodName) prog_118_method_3_code (6 : Nat) (Option.some Jvm.ClassFile.FieldType.int)]
set_option maxRecDepth 65536 in
theorem codes_eq : words1.filter isCode = codes1 := rfl
theorem w_codes : ∀ c ∈ words1.filter isCode, c.before args0 about1 = true := by
  rw [codes_eq]
  intro c hc
  simp only [codes1, List.mem_cons, List.not_mem_nil, or_false] at hc
  rcases hc with rfl | rfl | rfl
  · exact w_c0
  · exact w_c1
  · exact w_c2
set_option maxRecDepth 65536 in
theorem w_t1 : words1.all (fun c => isCode c || c.before args0 about1) = true := by decide +kernel
theorem w_tables : (allAtoms (Jvm.Cond.code x code maxLocals ret :: tables_1)).before args0 about1 = true := by
  rw [allAtoms_all]
  show words1.all (fun c => c.before args0 about1) = true
  refine all_split ?_ w_codes
  rw [w_t1]
set_option maxRecDepth 65536 in
theorem w_case : (Jvm.Cond.and given_1 narrow_1).before args0 about1 = true := by decide +kernel
theorem w_applies : (headSpec (Jvm.Cond.code x code maxLocals ret :: tables_1) room_1).applies x e0.platform about1 = true :=
  (Spec.applies_iff w_frames).mpr ⟨w_running, w_runnable, w_alone, w_named, w_hears, w_ripe, w_room, w_tables⟩
theorem atStart : AtStart classFile x code maxLocals ret World_1 tables_1 room_1 Calls_1 rest_1 Pre_1 launch0 p0 e0 about1 theMethod args0 below0 :=
  ⟨lists_1, trivial, launch0.admits_env _ _ _, launch0.least_env, fairChoices_fair.cas, fairChoices_fair.clock, w_frames, w_args, w_heap, w_applies, trivial, trivial, w_case⟩
end start1
theorem witness_1 : WitnessClaimed_1 := ⟨start1.p0, start1.e0, start1.about1, start1.theMethod, start1.args0, start1.below0, start1.atStart⟩
end Jvm.Pilot.@@N@@
