import JvmDerived
import JvmDerived.Pilot.@@N@@Statement
import JvmDerived.Pilot.@@N@@Code
set_option linter.unusedVariables false
set_option linter.unusedSimpArgs false
set_option maxHeartbeats 40000000
namespace Jvm.RoadKit
open Sem ClassFile Op Lib Jvm.Stand Jvm.Free Jvm.LawKit
section New
variable {p : Program} {l : Launch} {e : Env} {R : Room} {s : State} {m : MethodId} {args : Array Value} {below : List Frame} {meth : Method} {c : Code} {T : State} {locs : List Loc} {cells slots : Nat}
theorem retI (X : Stand p l e R s m args below meth c T locs cells slots) (hx : p.tables.exec = Jvm.exec) {pc : Nat} {Ls : Array Slot} {z : Int32} {rest : List Value} (hret : meth.sig.returnType = some .int) (hd : decode c.code pc = .ok (.ireturn, 1)) {fs : List Frame}
    (hl : ∀ (f : JFrame) (acts : List Action), f.method = m → f.locked = none → f.entered = [] → (doReturn e (T.setTop f) acts (some (.int z))).1 = T.setFrames fs) : Steps p.tables e below (T.setTop (mkF m pc Ls (.int z :: rest))) (T.setFrames fs) := by
  have hm' : T.vm.method? m = some meth := X.method'
  have hn : narrow .int (.int z) = .int z := rfl
  show Steps p.tables e below (T.setTop { method := m, pc := pc, locals := Ls, stack := _ :: rest, locked := none }) _
  jvm_step X.here [X.here.top, hx, hd, hm', hret, hn]
  first | (intro acts; rw [hl _ acts rfl rfl rfl]) | rw [hl _ _ rfl rfl rfl]
  exact Steps.refl _
end New
end Jvm.RoadKit
namespace Jvm.Pilot.@@N@@
open Jvm Jvm.ClassFile Sem Op Lib Jvm.Free Jvm.Stand Jvm.LawKit Jvm.RoadKit Bundle Jvm.Pilot.@@N@@.Jvm.D
/-! a run that ends well: what this text is made of -/
def own_Run (p : Program) (e : Env) (below : List Frame) (Φ : State → Prop) (S : State) : Prop := ∃ t, Steps p.tables e below S t ∧ Φ t
def own_Fin (s : State) (below : List Frame) (C D : Nat) (Q : Option Value → Heap → List Loc → Prop) (t : State) : Prop :=
  t.status = .running ∧ ∃ v L, Ended t below (.returned v) ∧ Q v t.heap L ∧ FrameEnd s (.returned v) t L C D
def own_Met (l : Launch) (Z : State) (y : MethodName) (bytes : ByteArray) (maxL : Nat) (ret : Option FieldType) (rm : Room) (as : Array Value) (h : Heap) (Q : Option Value → Heap → List Loc → Prop) : Prop :=
  ∀ ws : List Jvm.Cond, MetFree l y (head1 (Jvm.Cond.code y bytes maxL ret :: ws) rm) (fun a U => a = as ∧ Z.Warmed39 U.vm ∧ U.heap = h) (fun _ _ _ _ _ => True) (fun _ U o U' => ∃ v L, o = .returned v ∧ Q v U'.heap L ∧ FrameEnd U o U' L rm.cells rm.slots)
section OwnRun
variable {p : Program} {l : Launch} {e : Env} {R : Room} {s : State} {m : MethodId} {args : Array Value} {below : List Frame} {meth : Method} {c : Code} {T : State} {locs : List Loc} {cells slots : Nat} {Φ : State → Prop} {S S' : State} {Z : State} {a0 : Array Value} {h : Heap}
theorem own_go (st : ∀ t, Steps p.tables e below S' t → Steps p.tables e below S t) (r : own_Run p e below Φ S') : own_Run p e below Φ S := r.elim fun t q => ⟨t, st t q.1, q.2⟩
theorem own_via (st : Steps p.tables e below S S') (r : own_Run p e below Φ S') : own_Run p e below Φ S := r.elim fun t q => ⟨t, st.trans q.1, q.2⟩
theorem own_cast {g g' : JFrame} (q : g = g') (r : own_Run p e below Φ (T.setTop g')) : own_Run p e below Φ (T.setTop g) := q ▸ r
theorem own_body {C D : Nat} {Q : Option Value → Heap → List Loc → Prop} (r : own_Run p e below (own_Fin s below C D Q) S) :
    ∃ s₂ o, Steps p.tables e below S s₂ ∧ s₂.status = .running ∧ Ended s₂ below o ∧ ∃ v L, o = .returned v ∧ Q v s₂.heap L ∧ FrameEnd s o s₂ L C D := by
  obtain ⟨t, q1, q2, v, L, q3, q4, q5⟩ := r
  exact ⟨t, _, q1, q2, q3, v, L, rfl, q4, q5⟩
variable {C D : Nat} {Q : Option Value → Heap → List Loc → Prop}
theorem own_retI (X : Stand p l e R s m args below meth c T locs cells slots) (hx : p.tables.exec = Jvm.exec) (hret : meth.sig.returnType = some .int) (hlk : meth.locks = false) {pc : Nat} {Ls : Array Slot} {z : Int32} {rest : List Value} (hd : decode c.code pc = .ok (.ireturn, 1)) (eT : T.heap = h) (hq : Q (some (.int z)) h locs) (hc : cells ≤ C) (hs : slots ≤ D) :
    own_Run p e below (own_Fin s below C D Q) (T.setTop (mkF m pc Ls (.int z :: rest))) := by
  obtain ⟨fs, hr, hrun, hended, hW, hsame⟩ := X.leave (v := some (.int z)) (fun q => by rw [hret] at q; cases q) hlk
  exact ⟨_, retI X hx hret hd hr, hrun, _, _, hended, by show Q _ T.heap _; rw [eT]; exact hq, ⟨_, rfl⟩, hW, hsame.mono hc hs⟩
theorem own_retN (X : Stand p l e R s m args below meth c T locs cells slots) (hx : p.tables.exec = Jvm.exec) {t : FieldType} (hret : meth.sig.returnType = some t) (ht : t = .boolean ∨ t = .byte ∨ t = .char ∨ t = .short) (hlk : meth.locks = false) {pc : Nat} {Ls : Array Slot} {z : Int32} {rest : List Value} (hd : decode c.code pc = .ok (.ireturn, 1)) (eT : T.heap = h) (hq : Q (some (.int (nar t z))) h locs) (hc : cells ≤ C) (hs : slots ≤ D) :
    own_Run p e below (own_Fin s below C D Q) (T.setTop (mkF m pc Ls (.int z :: rest))) := by
  obtain ⟨fs, hr, hrun, hended, hW, hsame⟩ := X.leave (v := some (.int (nar t z))) (fun q => by rw [hret] at q; cases q) hlk
  exact ⟨_, retN X hx hret ht hd hr, hrun, _, _, hended, by show Q _ T.heap _; rw [eT]; exact hq, ⟨_, rfl⟩, hW, hsame.mono hc hs⟩
theorem own_retV (X : Stand p l e R s m args below meth c T locs cells slots) (hx : p.tables.exec = Jvm.exec) (hret : meth.sig.returnType = none) (hlk : meth.locks = false) {pc : Nat} {Ls : Array Slot} (hd : decode c.code pc = .ok (.return_, 1)) (eT : T.heap = h) (hq : Q none h locs) (hc : cells ≤ C) (hs : slots ≤ D) :
    own_Run p e below (own_Fin s below C D Q) (T.setTop (mkF m pc Ls [])) := by
  obtain ⟨fs, hr, hrun, hended, hW, hsame⟩ := X.leave (v := none) (fun _ => rfl) hlk
  exact ⟨_, X.returnOut hx hret hd hr, hrun, _, _, hended, by show Q _ T.heap _; rw [eT]; exact hq, ⟨_, rfl⟩, hW, hsame.mono hc hs⟩
theorem own_retO (X : Stand p l e R s m args below meth c T locs cells slots) (hx : p.tables.exec = Jvm.exec) {t : FieldType} {i : Instr} {w : Value} (hret : meth.sig.returnType = some t) (hn : narrow t w = w)
    (hi : (i = .ireturn ∧ (t = .int ∨ t = .boolean ∨ t = .byte ∨ t = .char ∨ t = .short) ∧ ∃ z, w = .int z) ∨ (i = .lreturn ∧ t = .long ∧ ∃ z, w = .long z) ∨ (i = .dreturn ∧ t = .double ∧ ∃ z, w = .double z) ∨ (i = .freturn ∧ t = .float ∧ ∃ z, w = .float z) ∨ (i = .areturn ∧ t.isReference = true ∧ w.isRef = true))
    (hlk : meth.locks = false) {pc : Nat} {Ls : Array Slot} {rest : List Value} (hd : decode c.code pc = .ok (i, 1)) (eT : T.heap = h) (hq : Q (some w) h locs) (hc : cells ≤ C) (hs : slots ≤ D) :
    own_Run p e below (own_Fin s below C D Q) (T.setTop (mkF m pc Ls (w :: rest))) := by
  obtain ⟨fs, hr, hrun, hended, hW, hsame⟩ := X.leave (v := some w) (fun q => by rw [hret] at q; cases q) hlk
  exact ⟨_, retOut X hx hret hn hi hd hr, hrun, _, _, hended, by show Q _ T.heap _; rw [eT]; exact hq, ⟨_, rfl⟩, hW, hsame.mono hc hs⟩
/-- who pays a call -/
def own_Bk (l : Launch) (R : Room) (p : Program) (e : Env) (below : List Frame) (s : State) (args : Array Value) (y : MethodName) (W : Nat) (as : Array Value) (h : Heap) (cc ss : Nat) (Q : Option Value → Heap → List Loc → Prop) : Prop :=
  Back l R p e below s args y 3 W (fun A a => a = as ∧ A.U.heap = h ∧ A.cells + cc ≤ R.cells ∧ A.slots + ss ≤ R.slots) (fun A _ v B => ∃ L, Q v B.U.heap L ∧ B.locs = A.locs ++ L ∧ B.cells = A.cells + cc ∧ B.slots = A.slots + ss)
theorem own_bk {y : MethodName} {bytes : ByteArray} {maxL : Nat} {ret : Option FieldType} {rm : Room} {W : Nat} {as : Array Value} (hM : own_Met l Z y bytes maxL ret rm as h Q) (hZ : Z.Warmed39 s.vm) (wc : (Jvm.Cond.code y bytes maxL ret).before a0 Z = true) (wz : (Jvm.Cond.initialized y.cls).before a0 Z = true) (hf : rm.frames + 1 ≤ R.frames) (hl : W + (maxL + 11) + rm.locals ≤ R.locals) :
    own_Bk l R p e below s args y W as h rm.cells rm.slots Q := backOf (W := W) (hM []) hZ wc wz hf hl
/-- a static method by its contract -/
theorem own_callS (X : Stand p l e R s m args below meth c T locs cells slots) (hx : p.tables.exec = Jvm.exec) (hZ : Z.Warmed39 s.vm) {own : String} {index : Nat} {y : MethodName} {bytes : ByteArray} {maxL : Nat} {ret : Option FieldType} {cc ss : Nat}
    (hown : s.vm.findClass own = some m.cls) (w1 : (Jvm.Cond.methodLink own index y).before a0 Z = true) (w2 : (Jvm.Cond.static y).before a0 Z = true) (w3 : (Jvm.Cond.initialized y.cls).before a0 Z = true) (w4 : (Jvm.Cond.code y bytes maxL ret).before a0 Z = true)
    (hy : y.cls ≠ "java/lang/invoke/MethodHandle" ∧ y.cls ≠ "java/lang/invoke/VarHandle") {W : Nat} {argsL rest : List Value} (hK : own_Bk l R p e below s args y W argsL.toArray h cc ss Q) (eT : T.heap = h)
    {g : JFrame} (hg : g.method = m) (hsize : g.locals.size = c.maxLocals) (hlen : ∀ sig, parseMethodDescriptor y.desc = some sig → argsL.length = sig.parameters.length)
    (hstack : g.stack = argsL.reverse ++ rest) (hW : 2 * g.monitorRoom + (rest.map fun v => v.category).sum ≤ W) (hdg : decode c.code g.pc = .ok (.invokestatic index, 3))
    (hcl : cells + cc ≤ R.cells) (hsl : slots + ss ≤ R.slots)
    (k : ∀ v T' h' L, Stand p l e R s m args below meth c T' (locs ++ L) (cells + cc) (slots + ss) → T'.heap = h' → Q v h' L → own_Run p e below Φ (T'.setTop { g with pc := g.pc + 3, stack := v.toList ++ rest })) : own_Run p e below Φ (T.setTop g) := by
  obtain ⟨v, _, ⟨T', L', k', n'⟩, -, X', ⟨Lc, hQ, l1, y1, z1⟩, st⟩ := Jvm.LawKit.callS X hx (y := y) hown (mvT hZ w1) (mvT hZ w2) (mvT hZ w3) (mvT hZ w4) hy hK hg hsize hlen hstack hW hdg (fun _ _ => ⟨rfl, eT, hcl, hsl⟩)
  dsimp only [Pt.U, Pt.locs, Pt.cells, Pt.slots] at X' l1 y1 z1 st hQ
  subst l1 y1 z1
  exact own_go st (k v T' _ Lc X' rfl hQ)
/-- a constructor by its contract -/
theorem own_callI (X : Stand p l e R s m args below meth c T locs cells slots) (hx : p.tables.exec = Jvm.exec) (hZ : Z.Warmed39 s.vm) {own : String} {index : Nat} {y : MethodName} {bytes : ByteArray} {maxL : Nat} {cc ss : Nat} (hy1 : y.name = "<init>")
    (hown : s.vm.findClass own = some m.cls) (w1 : (Jvm.Cond.methodLink own index y).before a0 Z = true) (w2 : (Jvm.Cond.instanceMethod y).before a0 Z = true) (w4 : (Jvm.Cond.code y bytes maxL none).before a0 Z = true)
    (hy : y.cls ≠ "java/lang/invoke/MethodHandle" ∧ y.cls ≠ "java/lang/invoke/VarHandle") {W : Nat} {a : Addr} {argsL rest : List Value} (hK : own_Bk l R p e below s args y W (.ref a :: argsL).toArray h cc ss Q) (eT : T.heap = h)
    {g : JFrame} (hg : g.method = m) (hsize : g.locals.size = c.maxLocals) (hlen : ∀ sig, parseMethodDescriptor y.desc = some sig → argsL.length = sig.parameters.length)
    (hstack : g.stack = argsL.reverse ++ .ref a :: rest) (hW : 2 * g.monitorRoom + (rest.map fun v => v.category).sum ≤ W) (hdg : decode c.code g.pc = .ok (.invokespecial index, 3))
    (hcl : cells + cc ≤ R.cells) (hsl : slots + ss ≤ R.slots)
    (k : ∀ v T' h' L, Stand p l e R s m args below meth c T' (locs ++ L) (cells + cc) (slots + ss) → T'.heap = h' → Q v h' L → own_Run p e below Φ (T'.setTop { g with pc := g.pc + 3, stack := v.toList ++ rest })) : own_Run p e below Φ (T.setTop g) := by
  obtain ⟨v, _, ⟨T', L', k', n'⟩, -, X', ⟨Lc, hQ, l1, y1, z1⟩, st⟩ := X.specialBack hx (y := y) hy1 hown (mvT hZ w1) (mvT hZ w2) (mvT hZ w4) hy hK hg hsize (Steps.refl _) (a := a) hlen hstack hW hdg (fun _ _ => ⟨rfl, eT, hcl, hsl⟩)
  dsimp only [Pt.U, Pt.locs, Pt.cells, Pt.slots] at X' l1 y1 z1 st hQ
  subst l1 y1 z1
  exact own_via st (k v T' _ Lc X' rfl hQ)
/-- an instance method by the contract of the body that the receiver's class selects -/
theorem own_callV (X : Stand p l e R s m args below meth c T locs cells slots) (hx : p.tables.exec = Jvm.exec) (hZ : Z.Warmed39 s.vm) {own C : String} {index : Nat} {y z : MethodName} {cc ss : Nat}
    (hown : s.vm.findClass own = some m.cls) (w1 : (Jvm.Cond.methodLink own index y).before a0 Z = true) (w2 : (Jvm.Cond.declares y).before a0 Z = true) (hnf : NotFace s y) (w3 : (Jvm.Cond.selects C y z).before a0 Z = true) (w4 : (Jvm.Cond.instanceMethod z).before a0 Z = true)
    (hy : y.cls ≠ "java/lang/invoke/MethodHandle" ∧ y.cls ≠ "java/lang/invoke/VarHandle") {W : Nat} {a : Addr} {argsL rest : List Value} (hK : own_Bk l R p e below s args z W (.ref a :: argsL).toArray h cc ss Q) (eT : T.heap = h) (E : Exa Z h a C)
    {g : JFrame} (hg : g.method = m) (hsize : g.locals.size = c.maxLocals) (hlen : ∀ sig, parseMethodDescriptor y.desc = some sig → argsL.length = sig.parameters.length)
    (hstack : g.stack = argsL.reverse ++ .ref a :: rest) (hW : 2 * g.monitorRoom + (rest.map fun v => v.category).sum ≤ W) (hdg : decode c.code g.pc = .ok (.invokevirtual index, 3))
    (hcl : cells + cc ≤ R.cells) (hsl : slots + ss ≤ R.slots)
    (k : ∀ v T' h' L, Stand p l e R s m args below meth c T' (locs ++ L) (cells + cc) (slots + ss) → T'.heap = h' → Q v h' L → own_Run p e below Φ (T'.setTop { g with pc := g.pc + 3, stack := v.toList ++ rest })) : own_Run p e below Φ (T.setTop g) := by
  obtain ⟨cq, kq, qa, qb, qc⟩ := isOf hZ eT E
  obtain ⟨v, _, ⟨T', L', k', n'⟩, -, X', ⟨Lc, hQ, l1, y1, z1⟩, st⟩ := X.virtualBack hx (y := y) (z := z) hown (mvT hZ w1) (mvT hZ w2) hnf (mvT hZ w3) (mvT hZ w4) hy hK qa qc hg hsize (Steps.refl _) hlen hstack hW hdg (fun _ _ => ⟨rfl, eT, hcl, hsl⟩)
  dsimp only [Pt.U, Pt.locs, Pt.cells, Pt.slots] at X' l1 y1 z1 st hQ
  subst l1 y1 z1
  exact own_via st (k v T' _ Lc X' rfl hQ)
/-- an instance method that a superclass declares -/
theorem own_callU (X : Stand p l e R s m args below meth c T locs cells slots) (hx : p.tables.exec = Jvm.exec) (hZ : Z.Warmed39 s.vm) {own C owner : String} {index : Nat} {y z : MethodName} {cc ss : Nat}
    (hown : s.vm.findClass own = some m.cls) (w1 : (Jvm.Cond.methodLink own index y).before a0 Z = true) (w0 : (Jvm.Cond.sameMethod y.cls owner y.name y.desc).before a0 Z = true) (w2 : (Jvm.Cond.declares ⟨owner, y.name, y.desc⟩).before a0 Z = true) (w3 : (Jvm.Cond.selects C y z).before a0 Z = true) (w4 : (Jvm.Cond.instanceMethod z).before a0 Z = true)
    (hy : owner ≠ "java/lang/invoke/MethodHandle" ∧ owner ≠ "java/lang/invoke/VarHandle") {W : Nat} {a : Addr} {argsL rest : List Value} (hK : own_Bk l R p e below s args z W (.ref a :: argsL).toArray h cc ss Q) (eT : T.heap = h) (E : Exa Z h a C)
    {g : JFrame} (hg : g.method = m) (hsize : g.locals.size = c.maxLocals) (hlen : ∀ sig, parseMethodDescriptor y.desc = some sig → argsL.length = sig.parameters.length)
    (hstack : g.stack = argsL.reverse ++ .ref a :: rest) (hW : 2 * g.monitorRoom + (rest.map fun v => v.category).sum ≤ W) (hdg : decode c.code g.pc = .ok (.invokevirtual index, 3))
    (hcl : cells + cc ≤ R.cells) (hsl : slots + ss ≤ R.slots)
    (k : ∀ v T' h' L, Stand p l e R s m args below meth c T' (locs ++ L) (cells + cc) (slots + ss) → T'.heap = h' → Q v h' L → own_Run p e below Φ (T'.setTop { g with pc := g.pc + 3, stack := v.toList ++ rest })) : own_Run p e below Φ (T.setTop g) := by
  obtain ⟨cq, kq, qa, qb, qc⟩ := isOf hZ eT E
  obtain ⟨v, _, ⟨T', L', k', n'⟩, -, X', ⟨Lc, hQ, l1, y1, z1⟩, st⟩ := X.virtualBackUp hx (x := y) (y := z) hown (mvT hZ w1) (mvT hZ w0) (mvT hZ w2) hy (mvT hZ w3) (mvT hZ w4) hK qa qc hg hsize (Steps.refl _) hlen hstack hW hdg (fun _ _ => ⟨rfl, eT, hcl, hsl⟩)
  dsimp only [Pt.U, Pt.locs, Pt.cells, Pt.slots] at X' l1 y1 z1 st hQ
  subst l1 y1 z1
  exact own_via st (k v T' _ Lc X' rfl hQ)
/-- a private method by its contract -/
theorem own_callP (X : Stand p l e R s m args below meth c T locs cells slots) (hx : p.tables.exec = Jvm.exec) (hZ : Z.Warmed39 s.vm) {own C : String} {index : Nat} {y : MethodName} {bytes : ByteArray} {maxL : Nat} {ret : Option FieldType} {cc ss : Nat}
    (hown : s.vm.findClass own = some m.cls) (w1 : (Jvm.Cond.methodLink own index y).before a0 Z = true) (w2 : (Jvm.Cond.instanceMethod y).before a0 Z = true) (w3 : (Jvm.Cond.selects y.cls y y).before a0 Z = true) (w4 : (Jvm.Cond.privateMethod y).before a0 Z = true) (w6 : (Jvm.Cond.code y bytes maxL ret).before a0 Z = true)
    (hy : y.cls ≠ "java/lang/invoke/MethodHandle" ∧ y.cls ≠ "java/lang/invoke/VarHandle") {W : Nat} {a : Addr} {argsL rest : List Value} (hK : own_Bk l R p e below s args y W (.ref a :: argsL).toArray h cc ss Q) (eT : T.heap = h) (E : Exa Z h a C)
    {g : JFrame} (hg : g.method = m) (hsize : g.locals.size = c.maxLocals) (hlen : ∀ sig, parseMethodDescriptor y.desc = some sig → argsL.length = sig.parameters.length)
    (hstack : g.stack = argsL.reverse ++ .ref a :: rest) (hW : 2 * g.monitorRoom + (rest.map fun v => v.category).sum ≤ W) (hdg : decode c.code g.pc = .ok (.invokevirtual index, 3))
    (hcl : cells + cc ≤ R.cells) (hsl : slots + ss ≤ R.slots)
    (k : ∀ v T' h' L, Stand p l e R s m args below meth c T' (locs ++ L) (cells + cc) (slots + ss) → T'.heap = h' → Q v h' L → own_Run p e below Φ (T'.setTop { g with pc := g.pc + 3, stack := v.toList ++ rest })) : own_Run p e below Φ (T.setTop g) := by
  obtain ⟨cq, q1, q2⟩ := E.cell
  obtain ⟨v, _, ⟨T', L', k', n'⟩, -, X', ⟨Lc, hQ, l1, y1, z1⟩, st⟩ := X.privateBack hx (y := y) hown (mvT hZ w1) (mvT hZ w2) (mvT hZ w3) (Cond.privateMethod_at (mvP hZ w4 (args := #[]))) (mvT hZ w6) hy hK hg hsize (Steps.refl _) (a := a) (by rw [eT]; exact q1) q2 hlen hstack hW hdg (fun _ _ => ⟨rfl, eT, hcl, hsl⟩)
  dsimp only [Pt.U, Pt.locs, Pt.cells, Pt.slots] at X' l1 y1 z1 st hQ
  subst l1 y1 z1
  exact own_via st (k v T' _ Lc X' rfl hQ)
/-- arrays: reading -/
theorem own_iaload (X : Stand p l e R s m args below meth c T locs cells slots) (hx : p.tables.exec = Jvm.exec) (hZ : Z.Warmed39 s.vm) (eT : T.heap = h) {a : Addr} {k : ClassId} {z j : Int32} {vs : List Value} {dv v : Value} (V : Arv Z h a k .int z vs dv) (hj : ¬ j < 0 ∧ j < z) (hv : vs.getD j.toNatClampNeg dv = v)
    {g : JFrame} (hg : g.method = m) {rest : List Value} (hs : g.stack = .int j :: .ref a :: rest) (hd : decode c.code g.pc = .ok (.iaload, 1)) (r : own_Run p e below Φ (T.setTop { g with pc := g.pc + 1, stack := v :: rest })) : own_Run p e below Φ (T.setTop g) := by
  obtain ⟨cl, A, -, S, -, H, -⟩ := V
  exact own_go (fun t q => X.iaload hx (j := j) (v := v) (by rw [eT]; exact A.1) (State.isArrayOf_alike hZ.alike A.2.1) A.2.2 (inb_of S hj) (Has.at H (inb_of S hj) hv) hg hs hd t q) r
theorem own_laload (X : Stand p l e R s m args below meth c T locs cells slots) (hx : p.tables.exec = Jvm.exec) (hZ : Z.Warmed39 s.vm) (eT : T.heap = h) {a : Addr} {k : ClassId} {z j : Int32} {vs : List Value} {dv v : Value} (V : Arv Z h a k .long z vs dv) (hj : ¬ j < 0 ∧ j < z) (hv : vs.getD j.toNatClampNeg dv = v)
    {g : JFrame} (hg : g.method = m) {rest : List Value} (hs : g.stack = .int j :: .ref a :: rest) (hd : decode c.code g.pc = .ok (.laload, 1)) (r : own_Run p e below Φ (T.setTop { g with pc := g.pc + 1, stack := v :: rest })) : own_Run p e below Φ (T.setTop g) := by
  obtain ⟨cl, A, -, S, -, H, -⟩ := V
  exact own_go (fun t q => X.laload hx (j := j) (v := v) (by rw [eT]; exact A.1) (State.isArrayOf_alike hZ.alike A.2.1) A.2.2 (inb_of S hj) (Has.at H (inb_of S hj) hv) hg hs hd t q) r
theorem own_caload (X : Stand p l e R s m args below meth c T locs cells slots) (hx : p.tables.exec = Jvm.exec) (hZ : Z.Warmed39 s.vm) (eT : T.heap = h) {a : Addr} {k : ClassId} {z j : Int32} {vs : List Value} {dv v : Value} (V : Arv Z h a k .char z vs dv) (hj : ¬ j < 0 ∧ j < z) (hv : vs.getD j.toNatClampNeg dv = v)
    {g : JFrame} (hg : g.method = m) {rest : List Value} (hs : g.stack = .int j :: .ref a :: rest) (hd : decode c.code g.pc = .ok (.caload, 1)) (r : own_Run p e below Φ (T.setTop { g with pc := g.pc + 1, stack := v :: rest })) : own_Run p e below Φ (T.setTop g) := by
  obtain ⟨cl, A, -, S, -, H, -⟩ := V
  exact own_go (fun t q => X.caload hx (j := j) (v := v) (by rw [eT]; exact A.1) (State.isArrayOf_alike hZ.alike A.2.1) A.2.2 (inb_of S hj) (Has.at H (inb_of S hj) hv) hg hs hd t q) r
theorem own_baload (X : Stand p l e R s m args below meth c T locs cells slots) (hx : p.tables.exec = Jvm.exec) (hZ : Z.Warmed39 s.vm) (eT : T.heap = h) {a : Addr} {k : ClassId} {z j : Int32} {vs : List Value} {dv v : Value} (V : Arv Z h a k .byte z vs dv) (hj : ¬ j < 0 ∧ j < z) (hv : vs.getD j.toNatClampNeg dv = v)
    {g : JFrame} (hg : g.method = m) {rest : List Value} (hs : g.stack = .int j :: .ref a :: rest) (hd : decode c.code g.pc = .ok (.baload, 1)) (r : own_Run p e below Φ (T.setTop { g with pc := g.pc + 1, stack := v :: rest })) : own_Run p e below Φ (T.setTop g) := by
  obtain ⟨cl, A, -, S, -, H, -⟩ := V
  exact own_go (fun t q => X.baloadBytes hx (j := j) (v := v) (by rw [eT]; exact A.1) (State.isArrayOf_alike hZ.alike A.2.1) A.2.2 (inb_of S hj) (Has.at H (inb_of S hj) hv) hg hs hd t q) r
theorem own_arrlen (X : Stand p l e R s m args below meth c T locs cells slots) (hx : p.tables.exec = Jvm.exec) (hZ : Z.Warmed39 s.vm) (eT : T.heap = h) {a : Addr} {k : ClassId} {ty : FieldType} {z : Int32} {vs : List Value} {dv : Value} (V : Arv Z h a k ty z vs dv)
    {g : JFrame} (hg : g.method = m) {rest : List Value} (hs : g.stack = .ref a :: rest) (hd : decode c.code g.pc = .ok (.arraylength, 1)) (r : own_Run p e below Φ (T.setTop { g with pc := g.pc + 1, stack := .int z :: rest })) : own_Run p e below Φ (T.setTop g) := by
  obtain ⟨cl, A, -, S, M, -, -⟩ := V
  refine own_go (fun t q => X.arraylength hx (by rw [eT]; exact A.1) (State.isArrayOf_alike hZ.alike A.2.1) hg hs hd t q) ?_
  rw [len_of S M]; exact r
/-- arrays: writing -/
theorem own_iastore (X : Stand p l e R s m args below meth c T locs cells slots) (hx : p.tables.exec = Jvm.exec) (hZ : Z.Warmed39 s.vm) (eT : T.heap = h) {a : Addr} {k : ClassId} {z j x : Int32} {vs : List Value} {dv : Value} (V : Arv Z h a k .int z vs dv) (hj : ¬ j < 0 ∧ j < z) (i : Nat) (hi : j.toNatClampNeg = i) (hl : i < vs.length)
    {g : JFrame} (hg : g.method = m) {rest : List Value} (hs : g.stack = .int x :: .int j :: .ref a :: rest) (hd : decode c.code g.pc = .ok (.iastore, 1))
    (r : ∀ T' h', Stand p l e R s m args below meth c T' (locs ++ [⟨a, j.toNatClampNeg⟩]) cells slots → T'.heap = h' → Wr h h' a j.toNatClampNeg (.int x) → Arv Z h' a k .int z (vs.set i (.int x)) dv → own_Run p e below Φ (T'.setTop { g with pc := g.pc + 1, stack := rest })) : own_Run p e below Φ (T.setTop g) := by
  obtain ⟨cl, A, q, S, N, H, G⟩ := V
  obtain ⟨T', h', X', e', W, st⟩ := stI X hx hZ eT A (j := j) (inb_of S hj) hg hs hd
  exact own_go st (r T' h' X' e' W (Arv.set A q S N H G rfl W i hi hl))
theorem own_lastore (X : Stand p l e R s m args below meth c T locs cells slots) (hx : p.tables.exec = Jvm.exec) (hZ : Z.Warmed39 s.vm) (eT : T.heap = h) {a : Addr} {k : ClassId} {z j : Int32} {x : Int64} {vs : List Value} {dv : Value} (V : Arv Z h a k .long z vs dv) (hj : ¬ j < 0 ∧ j < z) (i : Nat) (hi : j.toNatClampNeg = i) (hl : i < vs.length)
    {g : JFrame} (hg : g.method = m) {rest : List Value} (hs : g.stack = .long x :: .int j :: .ref a :: rest) (hd : decode c.code g.pc = .ok (.lastore, 1))
    (r : ∀ T' h', Stand p l e R s m args below meth c T' (locs ++ [⟨a, j.toNatClampNeg⟩]) cells slots → T'.heap = h' → Wr h h' a j.toNatClampNeg (.long x) → Arv Z h' a k .long z (vs.set i (.long x)) dv → own_Run p e below Φ (T'.setTop { g with pc := g.pc + 1, stack := rest })) : own_Run p e below Φ (T.setTop g) := by
  obtain ⟨cl, A, q, S, N, H, G⟩ := V
  obtain ⟨T', h', X', e', W, st⟩ := stJ X hx hZ eT A (j := j) (inb_of S hj) hg hs hd
  exact own_go st (r T' h' X' e' W (Arv.set A q S N H G rfl W i hi hl))
theorem own_bastore (X : Stand p l e R s m args below meth c T locs cells slots) (hx : p.tables.exec = Jvm.exec) (hZ : Z.Warmed39 s.vm) (eT : T.heap = h) {a : Addr} {k : ClassId} {z j x : Int32} {vs : List Value} {dv : Value} (V : Arv Z h a k .byte z vs dv) (hj : ¬ j < 0 ∧ j < z) (i : Nat) (hi : j.toNatClampNeg = i) (hl : i < vs.length)
    {g : JFrame} (hg : g.method = m) {rest : List Value} (hs : g.stack = .int x :: .int j :: .ref a :: rest) (hd : decode c.code g.pc = .ok (.bastore, 1))
    (r : ∀ T' h', Stand p l e R s m args below meth c T' (locs ++ [⟨a, j.toNatClampNeg⟩]) cells slots → T'.heap = h' → Wr h h' a j.toNatClampNeg (.int x.toInt8.toInt32) → Arv Z h' a k .byte z (vs.set i (.int x.toInt8.toInt32)) dv → own_Run p e below Φ (T'.setTop { g with pc := g.pc + 1, stack := rest })) : own_Run p e below Φ (T.setTop g) := by
  obtain ⟨cl, A, q, S, N, H, G⟩ := V
  obtain ⟨T', h', X', e', W, st⟩ := stB X hx hZ eT A (j := j) (inb_of S hj) hg hs hd
  exact own_go st (r T' h' X' e' W (Arv.set A q S N H G (fits_nar_byte _) W i hi hl))
theorem own_castore (X : Stand p l e R s m args below meth c T locs cells slots) (hx : p.tables.exec = Jvm.exec) (hZ : Z.Warmed39 s.vm) (eT : T.heap = h) {a : Addr} {k : ClassId} {z j x : Int32} {vs : List Value} {dv : Value} (V : Arv Z h a k .char z vs dv) (hj : ¬ j < 0 ∧ j < z) (i : Nat) (hi : j.toNatClampNeg = i) (hl : i < vs.length)
    {g : JFrame} (hg : g.method = m) {rest : List Value} (hs : g.stack = .int x :: .int j :: .ref a :: rest) (hd : decode c.code g.pc = .ok (.castore, 1))
    (r : ∀ T' h', Stand p l e R s m args below meth c T' (locs ++ [⟨a, j.toNatClampNeg⟩]) cells slots → T'.heap = h' → Wr h h' a j.toNatClampNeg (.int (nar .char x)) → Arv Z h' a k .char z (vs.set i (.int (nar .char x))) dv → own_Run p e below Φ (T'.setTop { g with pc := g.pc + 1, stack := rest })) : own_Run p e below Φ (T.setTop g) := by
  obtain ⟨cl, A, q, S, N, H, G⟩ := V
  obtain ⟨T', h', X', e', W, st⟩ := stC X hx hZ eT A (j := j) (inb_of S hj) hg hs hd
  exact own_go st (r T' h' X' e' W (Arv.set A q S N H G (fits_nar_char _) W i hi hl))
theorem own_newP (X : Stand p l e R s m args below meth c T locs cells slots) (hx : p.tables.exec = Jvm.exec) (hZ : Z.Warmed39 s.vm) {aty : ArrayType} (w : (Jvm.Cond.arrayClass (newarray.typeOf aty)).before a0 Z = true) (eT : T.heap = h) {g : JFrame} (hg : g.method = m) (hd : decode c.code g.pc = .ok (.newarray aty, 2)) {n : Int32} {rest : List Value} (hs : g.stack = .int n :: rest)
    (hn : ¬ n < 0) (cap : Nat) (hcap : n.toNatClampNeg ≤ cap) (hb : cap * 8 ≤ 536870912) (hc : cells + 1 ≤ R.cells) (hl : slots + cap ≤ R.slots) (N : Nat)
    (r : ∀ T' h' cA a, Stand p l e R s m args below meth c T' locs (cells + 1) (slots + cap) → T'.heap = h' → Ext h h' → a = h.size → Arv Z h' a cA (newarray.typeOf aty) n (List.replicate N (defaultValue (newarray.typeOf aty))) (defaultValue (newarray.typeOf aty)) → own_Run p e below Φ (T'.setTop { g with pc := g.pc + 2, stack := .ref a :: rest })) : own_Run p e below Φ (T.setTop g) := by
  obtain ⟨T', h', cA, X', e', E, A, st⟩ := newP X hx hZ w eT hg hd hs hn hcap hb hc hl
  have V := Arv.new A hn
  have q : ∀ i, (List.replicate N (defaultValue (newarray.typeOf aty))).getD i (defaultValue (newarray.typeOf aty)) = ([] : List Value).getD i (defaultValue (newarray.typeOf aty)) := pad_rep [] (defaultValue (newarray.typeOf aty)) N
  exact own_go st (r T' h' cA h.size X' e' E rfl (V.pad q))
theorem own_le {a b c d : Nat} (h1 : a ≤ b) (h2 : b + c ≤ d) : a + c ≤ d := Nat.le_trans (Nat.add_le_add_right h1 c) h2
/-- the case's words on statics -/
theorem own_eqI {args : Array Value} {first s : State} {o : Option Outcome} {idx : List Nat} {t : Term} {k : Int32} (h : (Jvm.Cond.eq t (.int k)).value args first o s idx = some true) : t.eval args first o idx s = some (.int k) := by
  cases ht : t.eval args first o idx s with
  | none => simp [Cond.value, ht] at h
  | some x => cases x <;> simp [Cond.value, Term.eval, ht] at h ⊢; exact h
theorem own_fldI {args : Array Value} {t : Term} {x : Addr} {C n d : String} {k : Int32} (ht : t.eval args Z none [] Z = some (.ref x)) (h : (Jvm.Cond.eq (.field t C n d) (.int k)).value args Z none Z [] = some true) : Fld Z Z.heap x C n d (.int k) := Fld.start ((fld_at ht).symm.trans (own_eqI h))
end OwnRun
def own_len (u : Int32) : Int32 := if u < (0 : Int32) then (if ¬ u < (-62 : Int32) ∧ ¬ (-33 : Int32) < u then (2 : Int32) else if ¬ u < (-32 : Int32) ∧ ¬ (-17 : Int32) < u then (3 : Int32) else if ¬ u < (-16 : Int32) ∧ ¬ (-12 : Int32) < u then (4 : Int32) else (0 : Int32)) else (1 : Int32)
def own_exp (u : Int32) : Int32 := if (u &&& (128 : Int32)) = (0 : Int32) then (1 : Int32) else if (u &&& (224 : Int32)) = (192 : Int32) then (if u < (194 : Int32) then (0 : Int32) else (2 : Int32)) else if (u &&& (240 : Int32)) = (224 : Int32) then (3 : Int32) else if (u &&& (248 : Int32)) = (240 : Int32) then (if (244 : Int32) < u then (0 : Int32) else (4 : Int32)) else (0 : Int32)
def own_n (p : Int32) : Int32 := if p < (128 : Int32) then (1 : Int32) else if p < (2048 : Int32) then (2 : Int32) else if p < (65536 : Int32) then (3 : Int32) else (4 : Int32)
def own_b0 (p : Int32) : Int32 := if p < (128 : Int32) then p.toInt8.toInt32 else if p < (2048 : Int32) then ((192 : Int32) ||| (p >>> ((6 : Int32) &&& 31))).toInt8.toInt32 else if p < (65536 : Int32) then ((224 : Int32) ||| (p >>> ((12 : Int32) &&& 31))).toInt8.toInt32 else ((240 : Int32) ||| (p >>> ((18 : Int32) &&& 31))).toInt8.toInt32
theorem own_b8 (x : Int32) : x.toInt8.toInt32.toInt8.toInt32 = x.toInt8.toInt32 := by simp
theorem own_fin {x : Int32} {lo : Int} {k : Nat} (h1 : lo ≤ x.toInt) (h2 : x.toInt < lo + k) : ∃ i : Fin k, x = Int32.ofInt (lo + (i.1 : Int)) :=
  ⟨⟨(x.toInt - lo).toNat, by omega⟩, by rw [show lo + (((x.toInt - lo).toNat : Nat) : Int) = x.toInt by omega]; exact (Int32.ofInt_toInt x).symm⟩
theorem own_tab : ∀ i : Fin 256, own_len (Int32.ofInt (-128 + (i.1 : Int))) = own_exp (Int32.ofInt (-128 + (i.1 : Int)) &&& (255 : Int32)) := by decide +kernel
theorem own_same (a : Int32) : own_len a.toInt8.toInt32 = own_exp (a &&& (255 : Int32)) := by
  obtain ⟨h1, h2, h3⟩ := c_i2b a
  have e : a &&& (255 : Int32) = a.toInt8.toInt32 &&& (255 : Int32) := by
    apply Int32.toInt_inj.mp
    rw [c_mask a 255 8 (by decide) (by decide), c_mask _ 255 8 (by decide) (by decide)]
    omega
  rw [e]
  obtain ⟨i, hi⟩ := own_fin (lo := -128) (k := 256) h2 (by omega)
  rw [hi]; exact own_tab i
theorem own_t1 : ∀ i : Fin 128, own_len (Int32.ofInt (0 + (i.1 : Int))).toInt8.toInt32 = 1 := by decide +kernel
theorem own_t2 : ∀ i : Fin 30, own_len ((192 : Int32) ||| (Int32.ofInt (2 + (i.1 : Int)))).toInt8.toInt32 = 2 := by decide +kernel
theorem own_t3 : ∀ i : Fin 16, own_len ((224 : Int32) ||| (Int32.ofInt (0 + (i.1 : Int)))).toInt8.toInt32 = 3 := by decide +kernel
theorem own_t4 : ∀ i : Fin 5, own_len ((240 : Int32) ||| (Int32.ofInt (0 + (i.1 : Int)))).toInt8.toInt32 = 4 := by decide +kernel
theorem own_enc {p : Int32} (h1 : 0 ≤ p.toInt) (h2 : p.toInt < 1114112) : own_len (own_b0 p) = own_n p := by
  unfold own_b0 own_n
  have s6 := c_ishr p 6 6 (by decide); have s12 := c_ishr p 12 12 (by decide); have s18 := c_ishr p 18 18 (by decide)
  simp only [Int32.lt_iff_toInt_lt, Int32.reduceToInt]
  split
  · obtain ⟨i, hi⟩ := own_fin (x := p) (lo := 0) (k := 128) (by omega) (by omega)
    rw [hi]; exact own_t1 i
  · split
    · obtain ⟨i, hi⟩ := own_fin (x := p >>> ((6 : Int32) &&& 31)) (lo := 2) (k := 30) (by omega) (by omega)
      rw [hi]; exact own_t2 i
    · split
      · obtain ⟨i, hi⟩ := own_fin (x := p >>> ((12 : Int32) &&& 31)) (lo := 0) (k := 16) (by omega) (by omega)
        rw [hi]; exact own_t3 i
      · obtain ⟨i, hi⟩ := own_fin (x := p >>> ((18 : Int32) &&& 31)) (lo := 0) (k := 5) (by omega) (by omega)
        rw [hi]; exact own_t4 i
theorem own_cp (b : Int32) : 0 ≤ ((b &&& (2147483647 : Int32)) % (1114112 : Int32)).toInt ∧ ((b &&& (2147483647 : Int32)) % (1114112 : Int32)).toInt < 1114112 := by
  have h := c_mask b 2147483647 31 (by decide) (by decide)
  have h2 := (c_irem (b &&& (2147483647 : Int32)) 1114112 1114112 (by decide)).1 (by omega)
  omega
theorem own_xor {x y : Int32} (h1 : 0 ≤ x.toInt) (h2 : x.toInt < 65536) (h3 : 0 ≤ y.toInt) (h4 : y.toInt < 65536) : 0 ≤ (x ^^^ y).toInt ∧ (x ^^^ y).toInt < 65536 := by
  have la := x.toBitVec.isLt; have lb := y.toBitVec.isLt
  have q : (x ^^^ y).toBitVec.toNat = x.toBitVec.toNat ^^^ y.toBitVec.toNat := by show (x.toBitVec ^^^ y.toBitVec).toNat = _; rw [BitVec.toNat_xor]
  change 0 ≤ x.toBitVec.toInt at h1; change x.toBitVec.toInt < 65536 at h2; change 0 ≤ y.toBitVec.toInt at h3; change y.toBitVec.toInt < 65536 at h4
  show 0 ≤ (x ^^^ y).toBitVec.toInt ∧ (x ^^^ y).toBitVec.toInt < 65536
  rw [BitVec.toInt_eq_toNat_cond] at h1 h2 h3 h4
  have a1 : x.toBitVec.toNat < 2 ^ 16 := by split at h1 <;> omega
  have b1 : y.toBitVec.toNat < 2 ^ 16 := by split at h3 <;> omega
  have o1 := Nat.xor_lt_two_pow a1 b1
  simp only [BitVec.toInt_eq_toNat_cond, q]
  split <;> omega
theorem d1_0 : decode prog_118_method_2_code 0 = .ok (.iload_n 0, 1) := by decide +kernel
theorem d1_1 : decode prog_118_method_2_code 1 = .ok (.ifCond .lt 8, 3) := by decide +kernel
theorem d1_4 : decode prog_118_method_2_code 4 = .ok (.iconst 1, 1) := by decide +kernel
theorem d1_5 : decode prog_118_method_2_code 5 = .ok (.istore_n 1, 1) := by decide +kernel
theorem d1_6 : decode prog_118_method_2_code 6 = .ok (.goto 56, 3) := by decide +kernel
theorem d1_9 : decode prog_118_method_2_code 9 = .ok (.iload_n 0, 1) := by decide +kernel
theorem d1_10 : decode prog_118_method_2_code 10 = .ok (.bipush (-62), 2) := by decide +kernel
theorem d1_12 : decode prog_118_method_2_code 12 = .ok (.if_icmp .lt 14, 3) := by decide +kernel
theorem d1_15 : decode prog_118_method_2_code 15 = .ok (.iload_n 0, 1) := by decide +kernel
theorem d1_16 : decode prog_118_method_2_code 16 = .ok (.bipush (-33), 2) := by decide +kernel
theorem d1_18 : decode prog_118_method_2_code 18 = .ok (.if_icmp .gt 8, 3) := by decide +kernel
theorem d1_21 : decode prog_118_method_2_code 21 = .ok (.iconst 2, 1) := by decide +kernel
theorem d1_22 : decode prog_118_method_2_code 22 = .ok (.istore_n 1, 1) := by decide +kernel
theorem d1_23 : decode prog_118_method_2_code 23 = .ok (.goto 39, 3) := by decide +kernel
theorem d1_26 : decode prog_118_method_2_code 26 = .ok (.iload_n 0, 1) := by decide +kernel
theorem d1_27 : decode prog_118_method_2_code 27 = .ok (.bipush (-32), 2) := by decide +kernel
theorem d1_29 : decode prog_118_method_2_code 29 = .ok (.if_icmp .lt 14, 3) := by decide +kernel
theorem d1_32 : decode prog_118_method_2_code 32 = .ok (.iload_n 0, 1) := by decide +kernel
theorem d1_33 : decode prog_118_method_2_code 33 = .ok (.bipush (-17), 2) := by decide +kernel
theorem d1_35 : decode prog_118_method_2_code 35 = .ok (.if_icmp .gt 8, 3) := by decide +kernel
theorem d1_38 : decode prog_118_method_2_code 38 = .ok (.iconst 3, 1) := by decide +kernel
theorem d1_39 : decode prog_118_method_2_code 39 = .ok (.istore_n 1, 1) := by decide +kernel
theorem d1_40 : decode prog_118_method_2_code 40 = .ok (.goto 22, 3) := by decide +kernel
theorem d1_43 : decode prog_118_method_2_code 43 = .ok (.iload_n 0, 1) := by decide +kernel
theorem d1_44 : decode prog_118_method_2_code 44 = .ok (.bipush (-16), 2) := by decide +kernel
theorem d1_46 : decode prog_118_method_2_code 46 = .ok (.if_icmp .lt 14, 3) := by decide +kernel
theorem d1_49 : decode prog_118_method_2_code 49 = .ok (.iload_n 0, 1) := by decide +kernel
theorem d1_50 : decode prog_118_method_2_code 50 = .ok (.bipush (-12), 2) := by decide +kernel
theorem d1_52 : decode prog_118_method_2_code 52 = .ok (.if_icmp .gt 8, 3) := by decide +kernel
theorem d1_55 : decode prog_118_method_2_code 55 = .ok (.iconst 4, 1) := by decide +kernel
theorem d1_56 : decode prog_118_method_2_code 56 = .ok (.istore_n 1, 1) := by decide +kernel
theorem d1_57 : decode prog_118_method_2_code 57 = .ok (.goto 5, 3) := by decide +kernel
theorem d1_60 : decode prog_118_method_2_code 60 = .ok (.iconst 0, 1) := by decide +kernel
theorem d1_61 : decode prog_118_method_2_code 61 = .ok (.istore_n 1, 1) := by decide +kernel
theorem d1_62 : decode prog_118_method_2_code 62 = .ok (.iload_n 1, 1) := by decide +kernel
theorem d1_63 : decode prog_118_method_2_code 63 = .ok (.ireturn, 1) := by decide +kernel
theorem pn_c1 : plainName "com/example/templum/templum/validation/Utf8" = true := by first | (simp [plainName, overriddenIn]; done) | decide +kernel
theorem ef_1_I (m : MethodId) (x0 : Int32) : entryFrame m #[(.int x0)] 2 = mkF m 0 #[.val (.int x0), .unset] [] := by first | (simp [entryFrame, mkF, argsToLocals, Value.category]; done) | rfl
set_option maxRecDepth 65536 in
set_option maxHeartbeats 40000000 in
theorem rm_len (l : Launch) (Z : State) (a0 : Array Value) (hw : ∀ d ∈ tables_1, d.before a0 Z = true) (p1 : Int32) (h0 : Heap) (n0 : Nat)  :
    own_Met l Z (⟨"com/example/templum/templum/validation/Utf8", "length", "(B)I"⟩ : MethodName) prog_118_method_2_code 2 (some .int) ({ frames := 0, cells := 0, slots := 0, locals := 0 } : Room) #[(.int p1)] h0 (fun v h L => v = some (.int (own_len p1)) ∧ Fr n0 L ∧ h = h0) := by
  intro ws
  refine MetFree.of_bodySF (plainFor_of_name pn_c1) hisR ?_
  intro p e s m args below meth c s₁ Bd hml0 hP hK
  obtain ⟨rfl, hZ, hh⟩ := hP
  have hx := Bd.exec
  have hby := Bd.bytes
  have hml : c.maxLocals = 2 := hml0
  have hown : s.vm.findClass "com/example/templum/templum/validation/Utf8" = some m.cls := findClass_of_methodNamed Bd.named
  have hnm := (name_of_methodNamed Bd.named Bd.method).1
  have hlk : meth.locks = false := Bd.notSynchronized
  have X0 : Stand p l e ({ frames := 0, cells := 0, slots := 0, locals := 0 } : Room) s m #[(.int p1)] below meth c s₁ [] 0 0 := Stand.of_body Bd
  have e0 : s₁.heap = h0 := by rw [← hh, Bd.state]; rfl
  have N0 := Fr.nil n0
  refine own_body (Q := fun v h L => v = some (.int (own_len p1)) ∧ Fr n0 L ∧ h = h0) ?_
  generalize hΦ : own_Fin s below _ _ _ = Φ
  refine own_cast (ef_1_I m p1) ?_
  show own_Run p e below Φ (s₁.setTop (mkF m 0 #[.val (.int p1), .unset] []))
  refine own_go (fun t k => XS.iloadN X0.here hx rfl (hb hby d1_0) rfl  k) ?_
  by_cases hc1 : p1 < (0 : Int32)
  · refine own_go (fun t k => XS.ifYes X0.here hx rfl (pc0 := 1) (pc' := 9) rfl (hb hby d1_1) rfl ((if0 _ _).trans (tlt hc1).1) (by decide) (by decide) k) ?_
    refine own_go (fun t k => XS.iloadN X0.here hx rfl (hb hby d1_9) rfl  k) ?_
    refine own_go (fun t k => XS.bipush X0.here hx rfl (hb hby d1_10) k) ?_
    by_cases hc12 : p1 < (-62 : Int32)
    · refine own_go (fun t k => XS.icmpYes X0.here hx rfl (pc0 := 12) (pc' := 26) rfl (hb hby d1_12) rfl (tlt hc12).1 (by decide) (by decide) k) ?_
      show own_Run p e below Φ (s₁.setTop (mkF m 26 #[.val (.int p1), .unset] []))
      refine own_go (fun t k => XS.iloadN X0.here hx rfl (hb hby d1_26) rfl  k) ?_
      refine own_go (fun t k => XS.bipush X0.here hx rfl (hb hby d1_27) k) ?_
      by_cases hc29 : p1 < (-32 : Int32)
      · refine own_go (fun t k => XS.icmpYes X0.here hx rfl (pc0 := 29) (pc' := 43) rfl (hb hby d1_29) rfl (tlt hc29).1 (by decide) (by decide) k) ?_
        refine own_go (fun t k => XS.iloadN X0.here hx rfl (hb hby d1_43) rfl  k) ?_
        refine own_go (fun t k => XS.bipush X0.here hx rfl (hb hby d1_44) k) ?_
        show own_Run p e below Φ (s₁.setTop (mkF m 46 #[.val (.int p1), .unset] [(.int (-16 : Int32)), (.int p1)]))
        by_cases hc46 : p1 < (-16 : Int32)
        · refine own_go (fun t k => XS.icmpYes X0.here hx rfl (pc0 := 46) (pc' := 60) rfl (hb hby d1_46) rfl (tlt hc46).1 (by decide) (by decide) k) ?_
          refine own_go (fun t k => XS.iconst X0.here hx rfl (hb hby d1_60) k) ?_
          refine own_go (fun t k => XS.istoreN X0.here hx rfl (hb hby d1_61) rfl (l' := #[.val (.int p1), .val (.int (0 : Int32))]) rfl k) ?_
          refine own_go (fun t k => XS.iloadN X0.here hx rfl (hb hby d1_62) rfl  k) ?_
          subst hΦ
          exact own_retI X0 hx Bd.returns hlk (hb hby d1_63) e0 ⟨(by simp [own_len, hc1, hc12, hc29, hc46]), N0, rfl⟩ (by decide) (by decide)
        · refine own_go (fun t k => XS.icmpNo X0.here hx rfl (hb hby d1_46) rfl (flt hc46).1 k) ?_
          show own_Run p e below Φ (s₁.setTop (mkF m 49 #[.val (.int p1), .unset] []))
          refine own_go (fun t k => XS.iloadN X0.here hx rfl (hb hby d1_49) rfl  k) ?_
          refine own_go (fun t k => XS.bipush X0.here hx rfl (hb hby d1_50) k) ?_
          by_cases hc52 : (-12 : Int32) < p1
          · refine own_go (fun t k => XS.icmpYes X0.here hx rfl (pc0 := 52) (pc' := 60) rfl (hb hby d1_52) rfl (tlt hc52).2.2.1 (by decide) (by decide) k) ?_
            refine own_go (fun t k => XS.iconst X0.here hx rfl (hb hby d1_60) k) ?_
            refine own_go (fun t k => XS.istoreN X0.here hx rfl (hb hby d1_61) rfl (l' := #[.val (.int p1), .val (.int (0 : Int32))]) rfl k) ?_
            show own_Run p e below Φ (s₁.setTop (mkF m 62 #[.val (.int p1), .val (.int (0 : Int32))] []))
            refine own_go (fun t k => XS.iloadN X0.here hx rfl (hb hby d1_62) rfl  k) ?_
            subst hΦ
            exact own_retI X0 hx Bd.returns hlk (hb hby d1_63) e0 ⟨(by simp [own_len, hc1, hc12, hc29, hc46, hc52]), N0, rfl⟩ (by decide) (by decide)
          · refine own_go (fun t k => XS.icmpNo X0.here hx rfl (hb hby d1_52) rfl (flt hc52).2.2.1 k) ?_
            refine own_go (fun t k => XS.iconst X0.here hx rfl (hb hby d1_55) k) ?_
            refine own_go (fun t k => XS.istoreN X0.here hx rfl (hb hby d1_56) rfl (l' := #[.val (.int p1), .val (.int (4 : Int32))]) rfl k) ?_
            refine own_go (fun t k => XS.goto X0.here hx rfl (pc0 := 57) (pc' := 62) rfl (hb hby d1_57) (by decide) (by decide) k) ?_
            show own_Run p e below Φ (s₁.setTop (mkF m 62 #[.val (.int p1), .val (.int (4 : Int32))] []))
            refine own_go (fun t k => XS.iloadN X0.here hx rfl (hb hby d1_62) rfl  k) ?_
            subst hΦ
            exact own_retI X0 hx Bd.returns hlk (hb hby d1_63) e0 ⟨(by simp [own_len, hc1, hc12, hc29, hc46, hc52]), N0, rfl⟩ (by decide) (by decide)
      · refine own_go (fun t k => XS.icmpNo X0.here hx rfl (hb hby d1_29) rfl (flt hc29).1 k) ?_
        refine own_go (fun t k => XS.iloadN X0.here hx rfl (hb hby d1_32) rfl  k) ?_
        refine own_go (fun t k => XS.bipush X0.here hx rfl (hb hby d1_33) k) ?_
        by_cases hc35 : (-17 : Int32) < p1
        · refine own_go (fun t k => XS.icmpYes X0.here hx rfl (pc0 := 35) (pc' := 43) rfl (hb hby d1_35) rfl (tlt hc35).2.2.1 (by decide) (by decide) k) ?_
          show own_Run p e below Φ (s₁.setTop (mkF m 43 #[.val (.int p1), .unset] []))
          refine own_go (fun t k => XS.iloadN X0.here hx rfl (hb hby d1_43) rfl  k) ?_
          refine own_go (fun t k => XS.bipush X0.here hx rfl (hb hby d1_44) k) ?_
          by_cases hc46 : p1 < (-16 : Int32)
          · refine own_go (fun t k => XS.icmpYes X0.here hx rfl (pc0 := 46) (pc' := 60) rfl (hb hby d1_46) rfl (tlt hc46).1 (by decide) (by decide) k) ?_
            refine own_go (fun t k => XS.iconst X0.here hx rfl (hb hby d1_60) k) ?_
            refine own_go (fun t k => XS.istoreN X0.here hx rfl (hb hby d1_61) rfl (l' := #[.val (.int p1), .val (.int (0 : Int32))]) rfl k) ?_
            show own_Run p e below Φ (s₁.setTop (mkF m 62 #[.val (.int p1), .val (.int (0 : Int32))] []))
            refine own_go (fun t k => XS.iloadN X0.here hx rfl (hb hby d1_62) rfl  k) ?_
            subst hΦ
            exact own_retI X0 hx Bd.returns hlk (hb hby d1_63) e0 ⟨(by simp [own_len, hc1, hc12, hc29, hc35, hc46]), N0, rfl⟩ (by decide) (by decide)
          · refine own_go (fun t k => XS.icmpNo X0.here hx rfl (hb hby d1_46) rfl (flt hc46).1 k) ?_
            refine own_go (fun t k => XS.iloadN X0.here hx rfl (hb hby d1_49) rfl  k) ?_
            refine own_go (fun t k => XS.bipush X0.here hx rfl (hb hby d1_50) k) ?_
            by_cases hc52 : (-12 : Int32) < p1
            · refine own_go (fun t k => XS.icmpYes X0.here hx rfl (pc0 := 52) (pc' := 60) rfl (hb hby d1_52) rfl (tlt hc52).2.2.1 (by decide) (by decide) k) ?_
              show own_Run p e below Φ (s₁.setTop (mkF m 60 #[.val (.int p1), .unset] []))
              refine own_go (fun t k => XS.iconst X0.here hx rfl (hb hby d1_60) k) ?_
              refine own_go (fun t k => XS.istoreN X0.here hx rfl (hb hby d1_61) rfl (l' := #[.val (.int p1), .val (.int (0 : Int32))]) rfl k) ?_
              refine own_go (fun t k => XS.iloadN X0.here hx rfl (hb hby d1_62) rfl  k) ?_
              subst hΦ
              exact own_retI X0 hx Bd.returns hlk (hb hby d1_63) e0 ⟨(by simp [own_len, hc1, hc12, hc29, hc35, hc46, hc52]), N0, rfl⟩ (by decide) (by decide)
            · refine own_go (fun t k => XS.icmpNo X0.here hx rfl (hb hby d1_52) rfl (flt hc52).2.2.1 k) ?_
              refine own_go (fun t k => XS.iconst X0.here hx rfl (hb hby d1_55) k) ?_
              show own_Run p e below Φ (s₁.setTop (mkF m 56 #[.val (.int p1), .unset] [(.int (4 : Int32))]))
              refine own_go (fun t k => XS.istoreN X0.here hx rfl (hb hby d1_56) rfl (l' := #[.val (.int p1), .val (.int (4 : Int32))]) rfl k) ?_
              refine own_go (fun t k => XS.goto X0.here hx rfl (pc0 := 57) (pc' := 62) rfl (hb hby d1_57) (by decide) (by decide) k) ?_
              refine own_go (fun t k => XS.iloadN X0.here hx rfl (hb hby d1_62) rfl  k) ?_
              subst hΦ
              exact own_retI X0 hx Bd.returns hlk (hb hby d1_63) e0 ⟨(by simp [own_len, hc1, hc12, hc29, hc35, hc46, hc52]), N0, rfl⟩ (by decide) (by decide)
        · refine own_go (fun t k => XS.icmpNo X0.here hx rfl (hb hby d1_35) rfl (flt hc35).2.2.1 k) ?_
          refine own_go (fun t k => XS.iconst X0.here hx rfl (hb hby d1_38) k) ?_
          show own_Run p e below Φ (s₁.setTop (mkF m 39 #[.val (.int p1), .unset] [(.int (3 : Int32))]))
          refine own_go (fun t k => XS.istoreN X0.here hx rfl (hb hby d1_39) rfl (l' := #[.val (.int p1), .val (.int (3 : Int32))]) rfl k) ?_
          refine own_go (fun t k => XS.goto X0.here hx rfl (pc0 := 40) (pc' := 62) rfl (hb hby d1_40) (by decide) (by decide) k) ?_
          refine own_go (fun t k => XS.iloadN X0.here hx rfl (hb hby d1_62) rfl  k) ?_
          subst hΦ
          exact own_retI X0 hx Bd.returns hlk (hb hby d1_63) e0 ⟨(by simp [own_len, hc1, hc12, hc29, hc35]), N0, rfl⟩ (by decide) (by decide)
    · refine own_go (fun t k => XS.icmpNo X0.here hx rfl (hb hby d1_12) rfl (flt hc12).1 k) ?_
      refine own_go (fun t k => XS.iloadN X0.here hx rfl (hb hby d1_15) rfl  k) ?_
      show own_Run p e below Φ (s₁.setTop (mkF m 16 #[.val (.int p1), .unset] [(.int p1)]))
      refine own_go (fun t k => XS.bipush X0.here hx rfl (hb hby d1_16) k) ?_
      by_cases hc18 : (-33 : Int32) < p1
      · refine own_go (fun t k => XS.icmpYes X0.here hx rfl (pc0 := 18) (pc' := 26) rfl (hb hby d1_18) rfl (tlt hc18).2.2.1 (by decide) (by decide) k) ?_
        refine own_go (fun t k => XS.iloadN X0.here hx rfl (hb hby d1_26) rfl  k) ?_
        refine own_go (fun t k => XS.bipush X0.here hx rfl (hb hby d1_27) k) ?_
        by_cases hc29 : p1 < (-32 : Int32)
        · refine own_go (fun t k => XS.icmpYes X0.here hx rfl (pc0 := 29) (pc' := 43) rfl (hb hby d1_29) rfl (tlt hc29).1 (by decide) (by decide) k) ?_
          show own_Run p e below Φ (s₁.setTop (mkF m 43 #[.val (.int p1), .unset] []))
          refine own_go (fun t k => XS.iloadN X0.here hx rfl (hb hby d1_43) rfl  k) ?_
          refine own_go (fun t k => XS.bipush X0.here hx rfl (hb hby d1_44) k) ?_
          by_cases hc46 : p1 < (-16 : Int32)
          · refine own_go (fun t k => XS.icmpYes X0.here hx rfl (pc0 := 46) (pc' := 60) rfl (hb hby d1_46) rfl (tlt hc46).1 (by decide) (by decide) k) ?_
            refine own_go (fun t k => XS.iconst X0.here hx rfl (hb hby d1_60) k) ?_
            refine own_go (fun t k => XS.istoreN X0.here hx rfl (hb hby d1_61) rfl (l' := #[.val (.int p1), .val (.int (0 : Int32))]) rfl k) ?_
            show own_Run p e below Φ (s₁.setTop (mkF m 62 #[.val (.int p1), .val (.int (0 : Int32))] []))
            refine own_go (fun t k => XS.iloadN X0.here hx rfl (hb hby d1_62) rfl  k) ?_
            subst hΦ
            exact own_retI X0 hx Bd.returns hlk (hb hby d1_63) e0 ⟨(by simp [own_len, hc1, hc12, hc18, hc29, hc46]), N0, rfl⟩ (by decide) (by decide)
          · refine own_go (fun t k => XS.icmpNo X0.here hx rfl (hb hby d1_46) rfl (flt hc46).1 k) ?_
            refine own_go (fun t k => XS.iloadN X0.here hx rfl (hb hby d1_49) rfl  k) ?_
            refine own_go (fun t k => XS.bipush X0.here hx rfl (hb hby d1_50) k) ?_
            by_cases hc52 : (-12 : Int32) < p1
            · refine own_go (fun t k => XS.icmpYes X0.here hx rfl (pc0 := 52) (pc' := 60) rfl (hb hby d1_52) rfl (tlt hc52).2.2.1 (by decide) (by decide) k) ?_
              show own_Run p e below Φ (s₁.setTop (mkF m 60 #[.val (.int p1), .unset] []))
              refine own_go (fun t k => XS.iconst X0.here hx rfl (hb hby d1_60) k) ?_
              refine own_go (fun t k => XS.istoreN X0.here hx rfl (hb hby d1_61) rfl (l' := #[.val (.int p1), .val (.int (0 : Int32))]) rfl k) ?_
              refine own_go (fun t k => XS.iloadN X0.here hx rfl (hb hby d1_62) rfl  k) ?_
              subst hΦ
              exact own_retI X0 hx Bd.returns hlk (hb hby d1_63) e0 ⟨(by simp [own_len, hc1, hc12, hc18, hc29, hc46, hc52]), N0, rfl⟩ (by decide) (by decide)
            · refine own_go (fun t k => XS.icmpNo X0.here hx rfl (hb hby d1_52) rfl (flt hc52).2.2.1 k) ?_
              refine own_go (fun t k => XS.iconst X0.here hx rfl (hb hby d1_55) k) ?_
              show own_Run p e below Φ (s₁.setTop (mkF m 56 #[.val (.int p1), .unset] [(.int (4 : Int32))]))
              refine own_go (fun t k => XS.istoreN X0.here hx rfl (hb hby d1_56) rfl (l' := #[.val (.int p1), .val (.int (4 : Int32))]) rfl k) ?_
              refine own_go (fun t k => XS.goto X0.here hx rfl (pc0 := 57) (pc' := 62) rfl (hb hby d1_57) (by decide) (by decide) k) ?_
              refine own_go (fun t k => XS.iloadN X0.here hx rfl (hb hby d1_62) rfl  k) ?_
              subst hΦ
              exact own_retI X0 hx Bd.returns hlk (hb hby d1_63) e0 ⟨(by simp [own_len, hc1, hc12, hc18, hc29, hc46, hc52]), N0, rfl⟩ (by decide) (by decide)
        · refine own_go (fun t k => XS.icmpNo X0.here hx rfl (hb hby d1_29) rfl (flt hc29).1 k) ?_
          refine own_go (fun t k => XS.iloadN X0.here hx rfl (hb hby d1_32) rfl  k) ?_
          show own_Run p e below Φ (s₁.setTop (mkF m 33 #[.val (.int p1), .unset] [(.int p1)]))
          refine own_go (fun t k => XS.bipush X0.here hx rfl (hb hby d1_33) k) ?_
          by_cases hc35 : (-17 : Int32) < p1
          · refine own_go (fun t k => XS.icmpYes X0.here hx rfl (pc0 := 35) (pc' := 43) rfl (hb hby d1_35) rfl (tlt hc35).2.2.1 (by decide) (by decide) k) ?_
            refine own_go (fun t k => XS.iloadN X0.here hx rfl (hb hby d1_43) rfl  k) ?_
            refine own_go (fun t k => XS.bipush X0.here hx rfl (hb hby d1_44) k) ?_
            by_cases hc46 : p1 < (-16 : Int32)
            · refine own_go (fun t k => XS.icmpYes X0.here hx rfl (pc0 := 46) (pc' := 60) rfl (hb hby d1_46) rfl (tlt hc46).1 (by decide) (by decide) k) ?_
              show own_Run p e below Φ (s₁.setTop (mkF m 60 #[.val (.int p1), .unset] []))
              refine own_go (fun t k => XS.iconst X0.here hx rfl (hb hby d1_60) k) ?_
              refine own_go (fun t k => XS.istoreN X0.here hx rfl (hb hby d1_61) rfl (l' := #[.val (.int p1), .val (.int (0 : Int32))]) rfl k) ?_
              refine own_go (fun t k => XS.iloadN X0.here hx rfl (hb hby d1_62) rfl  k) ?_
              subst hΦ
              exact own_retI X0 hx Bd.returns hlk (hb hby d1_63) e0 ⟨(by simp [own_len, hc1, hc12, hc18, hc29, hc35, hc46]), N0, rfl⟩ (by decide) (by decide)
            · refine own_go (fun t k => XS.icmpNo X0.here hx rfl (hb hby d1_46) rfl (flt hc46).1 k) ?_
              refine own_go (fun t k => XS.iloadN X0.here hx rfl (hb hby d1_49) rfl  k) ?_
              show own_Run p e below Φ (s₁.setTop (mkF m 50 #[.val (.int p1), .unset] [(.int p1)]))
              refine own_go (fun t k => XS.bipush X0.here hx rfl (hb hby d1_50) k) ?_
              by_cases hc52 : (-12 : Int32) < p1
              · refine own_go (fun t k => XS.icmpYes X0.here hx rfl (pc0 := 52) (pc' := 60) rfl (hb hby d1_52) rfl (tlt hc52).2.2.1 (by decide) (by decide) k) ?_
                refine own_go (fun t k => XS.iconst X0.here hx rfl (hb hby d1_60) k) ?_
                refine own_go (fun t k => XS.istoreN X0.here hx rfl (hb hby d1_61) rfl (l' := #[.val (.int p1), .val (.int (0 : Int32))]) rfl k) ?_
                refine own_go (fun t k => XS.iloadN X0.here hx rfl (hb hby d1_62) rfl  k) ?_
                show own_Run p e below Φ (s₁.setTop (mkF m 63 #[.val (.int p1), .val (.int (0 : Int32))] [(.int (0 : Int32))]))
                subst hΦ
                exact own_retI X0 hx Bd.returns hlk (hb hby d1_63) e0 ⟨(by simp [own_len, hc1, hc12, hc18, hc29, hc35, hc46, hc52]), N0, rfl⟩ (by decide) (by decide)
              · refine own_go (fun t k => XS.icmpNo X0.here hx rfl (hb hby d1_52) rfl (flt hc52).2.2.1 k) ?_
                refine own_go (fun t k => XS.iconst X0.here hx rfl (hb hby d1_55) k) ?_
                refine own_go (fun t k => XS.istoreN X0.here hx rfl (hb hby d1_56) rfl (l' := #[.val (.int p1), .val (.int (4 : Int32))]) rfl k) ?_
                refine own_go (fun t k => XS.goto X0.here hx rfl (pc0 := 57) (pc' := 62) rfl (hb hby d1_57) (by decide) (by decide) k) ?_
                refine own_go (fun t k => XS.iloadN X0.here hx rfl (hb hby d1_62) rfl  k) ?_
                show own_Run p e below Φ (s₁.setTop (mkF m 63 #[.val (.int p1), .val (.int (4 : Int32))] [(.int (4 : Int32))]))
                subst hΦ
                exact own_retI X0 hx Bd.returns hlk (hb hby d1_63) e0 ⟨(by simp [own_len, hc1, hc12, hc18, hc29, hc35, hc46, hc52]), N0, rfl⟩ (by decide) (by decide)
          · refine own_go (fun t k => XS.icmpNo X0.here hx rfl (hb hby d1_35) rfl (flt hc35).2.2.1 k) ?_
            refine own_go (fun t k => XS.iconst X0.here hx rfl (hb hby d1_38) k) ?_
            refine own_go (fun t k => XS.istoreN X0.here hx rfl (hb hby d1_39) rfl (l' := #[.val (.int p1), .val (.int (3 : Int32))]) rfl k) ?_
            refine own_go (fun t k => XS.goto X0.here hx rfl (pc0 := 40) (pc' := 62) rfl (hb hby d1_40) (by decide) (by decide) k) ?_
            refine own_go (fun t k => XS.iloadN X0.here hx rfl (hb hby d1_62) rfl  k) ?_
            show own_Run p e below Φ (s₁.setTop (mkF m 63 #[.val (.int p1), .val (.int (3 : Int32))] [(.int (3 : Int32))]))
            subst hΦ
            exact own_retI X0 hx Bd.returns hlk (hb hby d1_63) e0 ⟨(by simp [own_len, hc1, hc12, hc18, hc29, hc35]), N0, rfl⟩ (by decide) (by decide)
      · refine own_go (fun t k => XS.icmpNo X0.here hx rfl (hb hby d1_18) rfl (flt hc18).2.2.1 k) ?_
        refine own_go (fun t k => XS.iconst X0.here hx rfl (hb hby d1_21) k) ?_
        refine own_go (fun t k => XS.istoreN X0.here hx rfl (hb hby d1_22) rfl (l' := #[.val (.int p1), .val (.int (2 : Int32))]) rfl k) ?_
        refine own_go (fun t k => XS.goto X0.here hx rfl (pc0 := 23) (pc' := 62) rfl (hb hby d1_23) (by decide) (by decide) k) ?_
        refine own_go (fun t k => XS.iloadN X0.here hx rfl (hb hby d1_62) rfl  k) ?_
        show own_Run p e below Φ (s₁.setTop (mkF m 63 #[.val (.int p1), .val (.int (2 : Int32))] [(.int (2 : Int32))]))
        subst hΦ
        exact own_retI X0 hx Bd.returns hlk (hb hby d1_63) e0 ⟨(by simp [own_len, hc1, hc12, hc18]), N0, rfl⟩ (by decide) (by decide)
  · refine own_go (fun t k => XS.ifNo X0.here hx rfl (hb hby d1_1) rfl ((if0 _ _).trans (flt hc1).1) k) ?_
    refine own_go (fun t k => XS.iconst X0.here hx rfl (hb hby d1_4) k) ?_
    refine own_go (fun t k => XS.istoreN X0.here hx rfl (hb hby d1_5) rfl (l' := #[.val (.int p1), .val (.int (1 : Int32))]) rfl k) ?_
    refine own_go (fun t k => XS.goto X0.here hx rfl (pc0 := 6) (pc' := 62) rfl (hb hby d1_6) (by decide) (by decide) k) ?_
    refine own_go (fun t k => XS.iloadN X0.here hx rfl (hb hby d1_62) rfl  k) ?_
    show own_Run p e below Φ (s₁.setTop (mkF m 63 #[.val (.int p1), .val (.int (1 : Int32))] [(.int (1 : Int32))]))
    subst hΦ
    exact own_retI X0 hx Bd.returns hlk (hb hby d1_63) e0 ⟨(by simp [own_len, hc1]), N0, rfl⟩ (by decide) (by decide)
theorem d2_0 : decode method_2_code 0 = .ok (.iload_n 0, 1) := by decide +kernel
theorem d2_1 : decode method_2_code 1 = .ok (.sipush 128, 3) := by decide +kernel
theorem d2_4 : decode method_2_code 4 = .ok (.iand, 1) := by decide +kernel
theorem d2_5 : decode method_2_code 5 = .ok (.ifCond .ne 8, 3) := by decide +kernel
theorem d2_8 : decode method_2_code 8 = .ok (.iconst 1, 1) := by decide +kernel
theorem d2_9 : decode method_2_code 9 = .ok (.istore_n 1, 1) := by decide +kernel
theorem d2_10 : decode method_2_code 10 = .ok (.goto 75, 3) := by decide +kernel
theorem d2_13 : decode method_2_code 13 = .ok (.iload_n 0, 1) := by decide +kernel
theorem d2_14 : decode method_2_code 14 = .ok (.sipush 224, 3) := by decide +kernel
theorem d2_17 : decode method_2_code 17 = .ok (.iand, 1) := by decide +kernel
theorem d2_18 : decode method_2_code 18 = .ok (.sipush 192, 3) := by decide +kernel
theorem d2_21 : decode method_2_code 21 = .ok (.if_icmp .ne 19, 3) := by decide +kernel
theorem d2_24 : decode method_2_code 24 = .ok (.iload_n 0, 1) := by decide +kernel
theorem d2_25 : decode method_2_code 25 = .ok (.sipush 194, 3) := by decide +kernel
theorem d2_28 : decode method_2_code 28 = .ok (.if_icmp .lt 7, 3) := by decide +kernel
theorem d2_31 : decode method_2_code 31 = .ok (.iconst 2, 1) := by decide +kernel
theorem d2_32 : decode method_2_code 32 = .ok (.goto 4, 3) := by decide +kernel
theorem d2_35 : decode method_2_code 35 = .ok (.iconst 0, 1) := by decide +kernel
theorem d2_36 : decode method_2_code 36 = .ok (.istore_n 1, 1) := by decide +kernel
theorem d2_37 : decode method_2_code 37 = .ok (.goto 48, 3) := by decide +kernel
theorem d2_40 : decode method_2_code 40 = .ok (.iload_n 0, 1) := by decide +kernel
theorem d2_41 : decode method_2_code 41 = .ok (.sipush 240, 3) := by decide +kernel
theorem d2_44 : decode method_2_code 44 = .ok (.iand, 1) := by decide +kernel
theorem d2_45 : decode method_2_code 45 = .ok (.sipush 224, 3) := by decide +kernel
theorem d2_48 : decode method_2_code 48 = .ok (.if_icmp .ne 8, 3) := by decide +kernel
theorem d2_51 : decode method_2_code 51 = .ok (.iconst 3, 1) := by decide +kernel
theorem d2_52 : decode method_2_code 52 = .ok (.istore_n 1, 1) := by decide +kernel
theorem d2_53 : decode method_2_code 53 = .ok (.goto 32, 3) := by decide +kernel
theorem d2_56 : decode method_2_code 56 = .ok (.iload_n 0, 1) := by decide +kernel
theorem d2_57 : decode method_2_code 57 = .ok (.sipush 248, 3) := by decide +kernel
theorem d2_60 : decode method_2_code 60 = .ok (.iand, 1) := by decide +kernel
theorem d2_61 : decode method_2_code 61 = .ok (.sipush 240, 3) := by decide +kernel
theorem d2_64 : decode method_2_code 64 = .ok (.if_icmp .ne 19, 3) := by decide +kernel
theorem d2_67 : decode method_2_code 67 = .ok (.iload_n 0, 1) := by decide +kernel
theorem d2_68 : decode method_2_code 68 = .ok (.sipush 244, 3) := by decide +kernel
theorem d2_71 : decode method_2_code 71 = .ok (.if_icmp .gt 7, 3) := by decide +kernel
theorem d2_74 : decode method_2_code 74 = .ok (.iconst 4, 1) := by decide +kernel
theorem d2_75 : decode method_2_code 75 = .ok (.goto 4, 3) := by decide +kernel
theorem d2_78 : decode method_2_code 78 = .ok (.iconst 0, 1) := by decide +kernel
theorem d2_79 : decode method_2_code 79 = .ok (.istore_n 1, 1) := by decide +kernel
theorem d2_80 : decode method_2_code 80 = .ok (.goto 5, 3) := by decide +kernel
theorem d2_83 : decode method_2_code 83 = .ok (.iconst 0, 1) := by decide +kernel
theorem d2_84 : decode method_2_code 84 = .ok (.istore_n 1, 1) := by decide +kernel
theorem d2_85 : decode method_2_code 85 = .ok (.iload_n 1, 1) := by decide +kernel
theorem d2_86 : decode method_2_code 86 = .ok (.ireturn, 1) := by decide +kernel
theorem pn_c0 : plainName "com/example/templum/templum/validation/Utf8LengthPinLaw" = true := by first | (simp [plainName, overriddenIn]; done) | decide +kernel
theorem ef_2_I (m : MethodId) (x0 : Int32) : entryFrame m #[(.int x0)] 2 = mkF m 0 #[.val (.int x0), .unset] [] := by first | (simp [entryFrame, mkF, argsToLocals, Value.category]; done) | rfl
set_option maxRecDepth 65536 in
set_option maxHeartbeats 40000000 in
theorem rm_exp (l : Launch) (Z : State) (a0 : Array Value) (hw : ∀ d ∈ tables_1, d.before a0 Z = true) (p1 : Int32) (h0 : Heap) (n0 : Nat)  :
    own_Met l Z (⟨"com/example/templum/templum/validation/Utf8LengthPinLaw", "expectedLength", "(I)I"⟩ : MethodName) method_2_code 2 (some .int) ({ frames := 0, cells := 0, slots := 0, locals := 0 } : Room) #[(.int p1)] h0 (fun v h L => v = some (.int (own_exp p1)) ∧ Fr n0 L ∧ h = h0) := by
  intro ws
  refine MetFree.of_bodySF (plainFor_of_name pn_c0) hisR ?_
  intro p e s m args below meth c s₁ Bd hml0 hP hK
  obtain ⟨rfl, hZ, hh⟩ := hP
  have hx := Bd.exec
  have hby := Bd.bytes
  have hml : c.maxLocals = 2 := hml0
  have hown : s.vm.findClass "com/example/templum/templum/validation/Utf8LengthPinLaw" = some m.cls := findClass_of_methodNamed Bd.named
  have hnm := (name_of_methodNamed Bd.named Bd.method).1
  have hlk : meth.locks = false := Bd.notSynchronized
  have X0 : Stand p l e ({ frames := 0, cells := 0, slots := 0, locals := 0 } : Room) s m #[(.int p1)] below meth c s₁ [] 0 0 := Stand.of_body Bd
  have e0 : s₁.heap = h0 := by rw [← hh, Bd.state]; rfl
  have N0 := Fr.nil n0
  refine own_body (Q := fun v h L => v = some (.int (own_exp p1)) ∧ Fr n0 L ∧ h = h0) ?_
  generalize hΦ : own_Fin s below _ _ _ = Φ
  refine own_cast (ef_2_I m p1) ?_
  show own_Run p e below Φ (s₁.setTop (mkF m 0 #[.val (.int p1), .unset] []))
  refine own_go (fun t k => XS.iloadN X0.here hx rfl (hb hby d2_0) rfl  k) ?_
  refine own_go (fun t k => XS.sipush X0.here hx rfl (hb hby d2_1) k) ?_
  refine own_go (fun t k => XS.iand X0.here hx rfl (hb hby d2_4) rfl k) ?_
  by_cases hc5 : (p1 &&& (128 : Int32)) = (0 : Int32)
  · refine own_go (fun t k => XS.ifNo X0.here hx rfl (hb hby d2_5) rfl ((if0 _ _).trans (teq hc5).2) k) ?_
    refine own_go (fun t k => XS.iconst X0.here hx rfl (hb hby d2_8) k) ?_
    show own_Run p e below Φ (s₁.setTop (mkF m 9 #[.val (.int p1), .unset] [(.int (1 : Int32))]))
    refine own_go (fun t k => XS.istoreN X0.here hx rfl (hb hby d2_9) rfl (l' := #[.val (.int p1), .val (.int (1 : Int32))]) rfl k) ?_
    refine own_go (fun t k => XS.goto X0.here hx rfl (pc0 := 10) (pc' := 85) rfl (hb hby d2_10) (by decide) (by decide) k) ?_
    refine own_go (fun t k => XS.iloadN X0.here hx rfl (hb hby d2_85) rfl  k) ?_
    subst hΦ
    exact own_retI X0 hx Bd.returns hlk (hb hby d2_86) e0 ⟨(by simp [own_exp, hc5]), N0, rfl⟩ (by decide) (by decide)
  · refine own_go (fun t k => XS.ifYes X0.here hx rfl (pc0 := 5) (pc' := 13) rfl (hb hby d2_5) rfl ((if0 _ _).trans (feq hc5).2) (by decide) (by decide) k) ?_
    refine own_go (fun t k => XS.iloadN X0.here hx rfl (hb hby d2_13) rfl  k) ?_
    show own_Run p e below Φ (s₁.setTop (mkF m 14 #[.val (.int p1), .unset] [(.int p1)]))
    refine own_go (fun t k => XS.sipush X0.here hx rfl (hb hby d2_14) k) ?_
    refine own_go (fun t k => XS.iand X0.here hx rfl (hb hby d2_17) rfl k) ?_
    refine own_go (fun t k => XS.sipush X0.here hx rfl (hb hby d2_18) k) ?_
    by_cases hc21 : (p1 &&& (224 : Int32)) = (192 : Int32)
    · refine own_go (fun t k => XS.icmpNo X0.here hx rfl (hb hby d2_21) rfl (teq hc21).2 k) ?_
      refine own_go (fun t k => XS.iloadN X0.here hx rfl (hb hby d2_24) rfl  k) ?_
      show own_Run p e below Φ (s₁.setTop (mkF m 25 #[.val (.int p1), .unset] [(.int p1)]))
      refine own_go (fun t k => XS.sipush X0.here hx rfl (hb hby d2_25) k) ?_
      by_cases hc28 : p1 < (194 : Int32)
      · refine own_go (fun t k => XS.icmpYes X0.here hx rfl (pc0 := 28) (pc' := 35) rfl (hb hby d2_28) rfl (tlt hc28).1 (by decide) (by decide) k) ?_
        refine own_go (fun t k => XS.iconst X0.here hx rfl (hb hby d2_35) k) ?_
        refine own_go (fun t k => XS.istoreN X0.here hx rfl (hb hby d2_36) rfl (l' := #[.val (.int p1), .val (.int (0 : Int32))]) rfl k) ?_
        refine own_go (fun t k => XS.goto X0.here hx rfl (pc0 := 37) (pc' := 85) rfl (hb hby d2_37) (by decide) (by decide) k) ?_
        show own_Run p e below Φ (s₁.setTop (mkF m 85 #[.val (.int p1), .val (.int (0 : Int32))] []))
        refine own_go (fun t k => XS.iloadN X0.here hx rfl (hb hby d2_85) rfl  k) ?_
        subst hΦ
        exact own_retI X0 hx Bd.returns hlk (hb hby d2_86) e0 ⟨(by simp [own_exp, hc21, hc28, hc5]), N0, rfl⟩ (by decide) (by decide)
      · refine own_go (fun t k => XS.icmpNo X0.here hx rfl (hb hby d2_28) rfl (flt hc28).1 k) ?_
        refine own_go (fun t k => XS.iconst X0.here hx rfl (hb hby d2_31) k) ?_
        refine own_go (fun t k => XS.goto X0.here hx rfl (pc0 := 32) (pc' := 36) rfl (hb hby d2_32) (by decide) (by decide) k) ?_
        refine own_go (fun t k => XS.istoreN X0.here hx rfl (hb hby d2_36) rfl (l' := #[.val (.int p1), .val (.int (2 : Int32))]) rfl k) ?_
        show own_Run p e below Φ (s₁.setTop (mkF m 37 #[.val (.int p1), .val (.int (2 : Int32))] []))
        refine own_go (fun t k => XS.goto X0.here hx rfl (pc0 := 37) (pc' := 85) rfl (hb hby d2_37) (by decide) (by decide) k) ?_
        refine own_go (fun t k => XS.iloadN X0.here hx rfl (hb hby d2_85) rfl  k) ?_
        subst hΦ
        exact own_retI X0 hx Bd.returns hlk (hb hby d2_86) e0 ⟨(by simp [own_exp, hc21, hc28, hc5]), N0, rfl⟩ (by decide) (by decide)
    · refine own_go (fun t k => XS.icmpYes X0.here hx rfl (pc0 := 21) (pc' := 40) rfl (hb hby d2_21) rfl (feq hc21).2 (by decide) (by decide) k) ?_
      refine own_go (fun t k => XS.iloadN X0.here hx rfl (hb hby d2_40) rfl  k) ?_
      refine own_go (fun t k => XS.sipush X0.here hx rfl (hb hby d2_41) k) ?_
      show own_Run p e below Φ (s₁.setTop (mkF m 44 #[.val (.int p1), .unset] [(.int (240 : Int32)), (.int p1)]))
      refine own_go (fun t k => XS.iand X0.here hx rfl (hb hby d2_44) rfl k) ?_
      refine own_go (fun t k => XS.sipush X0.here hx rfl (hb hby d2_45) k) ?_
      by_cases hc48 : (p1 &&& (240 : Int32)) = (224 : Int32)
      · refine own_go (fun t k => XS.icmpNo X0.here hx rfl (hb hby d2_48) rfl (teq hc48).2 k) ?_
        refine own_go (fun t k => XS.iconst X0.here hx rfl (hb hby d2_51) k) ?_
        refine own_go (fun t k => XS.istoreN X0.here hx rfl (hb hby d2_52) rfl (l' := #[.val (.int p1), .val (.int (3 : Int32))]) rfl k) ?_
        show own_Run p e below Φ (s₁.setTop (mkF m 53 #[.val (.int p1), .val (.int (3 : Int32))] []))
        refine own_go (fun t k => XS.goto X0.here hx rfl (pc0 := 53) (pc' := 85) rfl (hb hby d2_53) (by decide) (by decide) k) ?_
        refine own_go (fun t k => XS.iloadN X0.here hx rfl (hb hby d2_85) rfl  k) ?_
        subst hΦ
        exact own_retI X0 hx Bd.returns hlk (hb hby d2_86) e0 ⟨(by simp [own_exp, hc21, hc48, hc5]), N0, rfl⟩ (by decide) (by decide)
      · refine own_go (fun t k => XS.icmpYes X0.here hx rfl (pc0 := 48) (pc' := 56) rfl (hb hby d2_48) rfl (feq hc48).2 (by decide) (by decide) k) ?_
        refine own_go (fun t k => XS.iloadN X0.here hx rfl (hb hby d2_56) rfl  k) ?_
        refine own_go (fun t k => XS.sipush X0.here hx rfl (hb hby d2_57) k) ?_
        show own_Run p e below Φ (s₁.setTop (mkF m 60 #[.val (.int p1), .unset] [(.int (248 : Int32)), (.int p1)]))
        refine own_go (fun t k => XS.iand X0.here hx rfl (hb hby d2_60) rfl k) ?_
        refine own_go (fun t k => XS.sipush X0.here hx rfl (hb hby d2_61) k) ?_
        by_cases hc64 : (p1 &&& (248 : Int32)) = (240 : Int32)
        · refine own_go (fun t k => XS.icmpNo X0.here hx rfl (hb hby d2_64) rfl (teq hc64).2 k) ?_
          refine own_go (fun t k => XS.iloadN X0.here hx rfl (hb hby d2_67) rfl  k) ?_
          refine own_go (fun t k => XS.sipush X0.here hx rfl (hb hby d2_68) k) ?_
          show own_Run p e below Φ (s₁.setTop (mkF m 71 #[.val (.int p1), .unset] [(.int (244 : Int32)), (.int p1)]))
          by_cases hc71 : (244 : Int32) < p1
          · refine own_go (fun t k => XS.icmpYes X0.here hx rfl (pc0 := 71) (pc' := 78) rfl (hb hby d2_71) rfl (tlt hc71).2.2.1 (by decide) (by decide) k) ?_
            refine own_go (fun t k => XS.iconst X0.here hx rfl (hb hby d2_78) k) ?_
            refine own_go (fun t k => XS.istoreN X0.here hx rfl (hb hby d2_79) rfl (l' := #[.val (.int p1), .val (.int (0 : Int32))]) rfl k) ?_
            refine own_go (fun t k => XS.goto X0.here hx rfl (pc0 := 80) (pc' := 85) rfl (hb hby d2_80) (by decide) (by decide) k) ?_
            refine own_go (fun t k => XS.iloadN X0.here hx rfl (hb hby d2_85) rfl  k) ?_
            show own_Run p e below Φ (s₁.setTop (mkF m 86 #[.val (.int p1), .val (.int (0 : Int32))] [(.int (0 : Int32))]))
            subst hΦ
            exact own_retI X0 hx Bd.returns hlk (hb hby d2_86) e0 ⟨(by simp [own_exp, hc21, hc48, hc5, hc64, hc71]), N0, rfl⟩ (by decide) (by decide)
          · refine own_go (fun t k => XS.icmpNo X0.here hx rfl (hb hby d2_71) rfl (flt hc71).2.2.1 k) ?_
            refine own_go (fun t k => XS.iconst X0.here hx rfl (hb hby d2_74) k) ?_
            refine own_go (fun t k => XS.goto X0.here hx rfl (pc0 := 75) (pc' := 79) rfl (hb hby d2_75) (by decide) (by decide) k) ?_
            refine own_go (fun t k => XS.istoreN X0.here hx rfl (hb hby d2_79) rfl (l' := #[.val (.int p1), .val (.int (4 : Int32))]) rfl k) ?_
            refine own_go (fun t k => XS.goto X0.here hx rfl (pc0 := 80) (pc' := 85) rfl (hb hby d2_80) (by decide) (by decide) k) ?_
            show own_Run p e below Φ (s₁.setTop (mkF m 85 #[.val (.int p1), .val (.int (4 : Int32))] []))
            refine own_go (fun t k => XS.iloadN X0.here hx rfl (hb hby d2_85) rfl  k) ?_
            subst hΦ
            exact own_retI X0 hx Bd.returns hlk (hb hby d2_86) e0 ⟨(by simp [own_exp, hc21, hc48, hc5, hc64, hc71]), N0, rfl⟩ (by decide) (by decide)
        · refine own_go (fun t k => XS.icmpYes X0.here hx rfl (pc0 := 64) (pc' := 83) rfl (hb hby d2_64) rfl (feq hc64).2 (by decide) (by decide) k) ?_
          refine own_go (fun t k => XS.iconst X0.here hx rfl (hb hby d2_83) k) ?_
          refine own_go (fun t k => XS.istoreN X0.here hx rfl (hb hby d2_84) rfl (l' := #[.val (.int p1), .val (.int (0 : Int32))]) rfl k) ?_
          refine own_go (fun t k => XS.iloadN X0.here hx rfl (hb hby d2_85) rfl  k) ?_
          show own_Run p e below Φ (s₁.setTop (mkF m 86 #[.val (.int p1), .val (.int (0 : Int32))] [(.int (0 : Int32))]))
          subst hΦ
          exact own_retI X0 hx Bd.returns hlk (hb hby d2_86) e0 ⟨(by simp [own_exp, hc21, hc48, hc5, hc64]), N0, rfl⟩ (by decide) (by decide)
theorem d3_0 : decode prog_118_method_4_code 0 = .ok (.iload_n 0, 1) := by decide +kernel
theorem d3_1 : decode prog_118_method_4_code 1 = .ok (.sipush 128, 3) := by decide +kernel
theorem d3_4 : decode prog_118_method_4_code 4 = .ok (.if_icmp .ge 13, 3) := by decide +kernel
theorem d3_7 : decode prog_118_method_4_code 7 = .ok (.aload_n 1, 1) := by decide +kernel
theorem d3_8 : decode prog_118_method_4_code 8 = .ok (.iload_n 2, 1) := by decide +kernel
theorem d3_9 : decode prog_118_method_4_code 9 = .ok (.iload_n 0, 1) := by decide +kernel
theorem d3_10 : decode prog_118_method_4_code 10 = .ok (.i2b, 1) := by decide +kernel
theorem d3_11 : decode prog_118_method_4_code 11 = .ok (.bastore, 1) := by decide +kernel
theorem d3_12 : decode prog_118_method_4_code 12 = .ok (.iconst 1, 1) := by decide +kernel
theorem d3_13 : decode prog_118_method_4_code 13 = .ok (.istore_n 3, 1) := by decide +kernel
theorem d3_14 : decode prog_118_method_4_code 14 = .ok (.goto 157, 3) := by decide +kernel
theorem d3_17 : decode prog_118_method_4_code 17 = .ok (.iload_n 0, 1) := by decide +kernel
theorem d3_18 : decode prog_118_method_4_code 18 = .ok (.sipush 2048, 3) := by decide +kernel
theorem d3_21 : decode prog_118_method_4_code 21 = .ok (.if_icmp .ge 34, 3) := by decide +kernel
theorem d3_24 : decode prog_118_method_4_code 24 = .ok (.aload_n 1, 1) := by decide +kernel
theorem d3_25 : decode prog_118_method_4_code 25 = .ok (.iload_n 2, 1) := by decide +kernel
theorem d3_26 : decode prog_118_method_4_code 26 = .ok (.sipush 192, 3) := by decide +kernel
theorem d3_29 : decode prog_118_method_4_code 29 = .ok (.iload_n 0, 1) := by decide +kernel
theorem d3_30 : decode prog_118_method_4_code 30 = .ok (.bipush 6, 2) := by decide +kernel
theorem d3_32 : decode prog_118_method_4_code 32 = .ok (.ishr, 1) := by decide +kernel
theorem d3_33 : decode prog_118_method_4_code 33 = .ok (.ior, 1) := by decide +kernel
theorem d3_34 : decode prog_118_method_4_code 34 = .ok (.i2b, 1) := by decide +kernel
theorem d3_35 : decode prog_118_method_4_code 35 = .ok (.bastore, 1) := by decide +kernel
theorem d3_36 : decode prog_118_method_4_code 36 = .ok (.aload_n 1, 1) := by decide +kernel
theorem d3_37 : decode prog_118_method_4_code 37 = .ok (.iload_n 2, 1) := by decide +kernel
theorem d3_38 : decode prog_118_method_4_code 38 = .ok (.iconst 1, 1) := by decide +kernel
theorem d3_39 : decode prog_118_method_4_code 39 = .ok (.iadd, 1) := by decide +kernel
theorem d3_40 : decode prog_118_method_4_code 40 = .ok (.sipush 128, 3) := by decide +kernel
theorem d3_43 : decode prog_118_method_4_code 43 = .ok (.iload_n 0, 1) := by decide +kernel
theorem d3_44 : decode prog_118_method_4_code 44 = .ok (.bipush 63, 2) := by decide +kernel
theorem d3_46 : decode prog_118_method_4_code 46 = .ok (.iand, 1) := by decide +kernel
theorem d3_47 : decode prog_118_method_4_code 47 = .ok (.ior, 1) := by decide +kernel
theorem d3_48 : decode prog_118_method_4_code 48 = .ok (.i2b, 1) := by decide +kernel
theorem d3_49 : decode prog_118_method_4_code 49 = .ok (.bastore, 1) := by decide +kernel
theorem d3_50 : decode prog_118_method_4_code 50 = .ok (.iconst 2, 1) := by decide +kernel
theorem d3_51 : decode prog_118_method_4_code 51 = .ok (.istore_n 3, 1) := by decide +kernel
theorem d3_52 : decode prog_118_method_4_code 52 = .ok (.goto 119, 3) := by decide +kernel
theorem d3_55 : decode prog_118_method_4_code 55 = .ok (.iload_n 0, 1) := by decide +kernel
theorem d3_56 : decode prog_118_method_4_code 56 = .ok (.ldc 18, 2) := by decide +kernel
theorem d3_58 : decode prog_118_method_4_code 58 = .ok (.if_icmp .ge 51, 3) := by decide +kernel
theorem d3_61 : decode prog_118_method_4_code 61 = .ok (.aload_n 1, 1) := by decide +kernel
theorem d3_62 : decode prog_118_method_4_code 62 = .ok (.iload_n 2, 1) := by decide +kernel
theorem d3_63 : decode prog_118_method_4_code 63 = .ok (.sipush 224, 3) := by decide +kernel
theorem d3_66 : decode prog_118_method_4_code 66 = .ok (.iload_n 0, 1) := by decide +kernel
theorem d3_67 : decode prog_118_method_4_code 67 = .ok (.bipush 12, 2) := by decide +kernel
theorem d3_69 : decode prog_118_method_4_code 69 = .ok (.ishr, 1) := by decide +kernel
theorem d3_70 : decode prog_118_method_4_code 70 = .ok (.ior, 1) := by decide +kernel
theorem d3_71 : decode prog_118_method_4_code 71 = .ok (.i2b, 1) := by decide +kernel
theorem d3_72 : decode prog_118_method_4_code 72 = .ok (.bastore, 1) := by decide +kernel
theorem d3_73 : decode prog_118_method_4_code 73 = .ok (.aload_n 1, 1) := by decide +kernel
theorem d3_74 : decode prog_118_method_4_code 74 = .ok (.iload_n 2, 1) := by decide +kernel
theorem d3_75 : decode prog_118_method_4_code 75 = .ok (.iconst 1, 1) := by decide +kernel
theorem d3_76 : decode prog_118_method_4_code 76 = .ok (.iadd, 1) := by decide +kernel
theorem d3_77 : decode prog_118_method_4_code 77 = .ok (.sipush 128, 3) := by decide +kernel
theorem d3_80 : decode prog_118_method_4_code 80 = .ok (.iload_n 0, 1) := by decide +kernel
theorem d3_81 : decode prog_118_method_4_code 81 = .ok (.bipush 6, 2) := by decide +kernel
theorem d3_83 : decode prog_118_method_4_code 83 = .ok (.ishr, 1) := by decide +kernel
theorem d3_84 : decode prog_118_method_4_code 84 = .ok (.bipush 63, 2) := by decide +kernel
theorem d3_86 : decode prog_118_method_4_code 86 = .ok (.iand, 1) := by decide +kernel
theorem d3_87 : decode prog_118_method_4_code 87 = .ok (.ior, 1) := by decide +kernel
theorem d3_88 : decode prog_118_method_4_code 88 = .ok (.i2b, 1) := by decide +kernel
theorem d3_89 : decode prog_118_method_4_code 89 = .ok (.bastore, 1) := by decide +kernel
theorem d3_90 : decode prog_118_method_4_code 90 = .ok (.aload_n 1, 1) := by decide +kernel
theorem d3_91 : decode prog_118_method_4_code 91 = .ok (.iload_n 2, 1) := by decide +kernel
theorem d3_92 : decode prog_118_method_4_code 92 = .ok (.iconst 2, 1) := by decide +kernel
theorem d3_93 : decode prog_118_method_4_code 93 = .ok (.iadd, 1) := by decide +kernel
theorem d3_94 : decode prog_118_method_4_code 94 = .ok (.sipush 128, 3) := by decide +kernel
theorem d3_97 : decode prog_118_method_4_code 97 = .ok (.iload_n 0, 1) := by decide +kernel
theorem d3_98 : decode prog_118_method_4_code 98 = .ok (.bipush 63, 2) := by decide +kernel
theorem d3_100 : decode prog_118_method_4_code 100 = .ok (.iand, 1) := by decide +kernel
theorem d3_101 : decode prog_118_method_4_code 101 = .ok (.ior, 1) := by decide +kernel
theorem d3_102 : decode prog_118_method_4_code 102 = .ok (.i2b, 1) := by decide +kernel
theorem d3_103 : decode prog_118_method_4_code 103 = .ok (.bastore, 1) := by decide +kernel
theorem d3_104 : decode prog_118_method_4_code 104 = .ok (.iconst 3, 1) := by decide +kernel
theorem d3_105 : decode prog_118_method_4_code 105 = .ok (.istore_n 3, 1) := by decide +kernel
theorem d3_106 : decode prog_118_method_4_code 106 = .ok (.goto 65, 3) := by decide +kernel
theorem d3_109 : decode prog_118_method_4_code 109 = .ok (.aload_n 1, 1) := by decide +kernel
theorem d3_110 : decode prog_118_method_4_code 110 = .ok (.iload_n 2, 1) := by decide +kernel
theorem d3_111 : decode prog_118_method_4_code 111 = .ok (.sipush 240, 3) := by decide +kernel
theorem d3_114 : decode prog_118_method_4_code 114 = .ok (.iload_n 0, 1) := by decide +kernel
theorem d3_115 : decode prog_118_method_4_code 115 = .ok (.bipush 18, 2) := by decide +kernel
theorem d3_117 : decode prog_118_method_4_code 117 = .ok (.ishr, 1) := by decide +kernel
theorem d3_118 : decode prog_118_method_4_code 118 = .ok (.ior, 1) := by decide +kernel
theorem d3_119 : decode prog_118_method_4_code 119 = .ok (.i2b, 1) := by decide +kernel
theorem d3_120 : decode prog_118_method_4_code 120 = .ok (.bastore, 1) := by decide +kernel
theorem d3_121 : decode prog_118_method_4_code 121 = .ok (.aload_n 1, 1) := by decide +kernel
theorem d3_122 : decode prog_118_method_4_code 122 = .ok (.iload_n 2, 1) := by decide +kernel
theorem d3_123 : decode prog_118_method_4_code 123 = .ok (.iconst 1, 1) := by decide +kernel
theorem d3_124 : decode prog_118_method_4_code 124 = .ok (.iadd, 1) := by decide +kernel
theorem d3_125 : decode prog_118_method_4_code 125 = .ok (.sipush 128, 3) := by decide +kernel
theorem d3_128 : decode prog_118_method_4_code 128 = .ok (.iload_n 0, 1) := by decide +kernel
theorem d3_129 : decode prog_118_method_4_code 129 = .ok (.bipush 12, 2) := by decide +kernel
theorem d3_131 : decode prog_118_method_4_code 131 = .ok (.ishr, 1) := by decide +kernel
theorem d3_132 : decode prog_118_method_4_code 132 = .ok (.bipush 63, 2) := by decide +kernel
theorem d3_134 : decode prog_118_method_4_code 134 = .ok (.iand, 1) := by decide +kernel
theorem d3_135 : decode prog_118_method_4_code 135 = .ok (.ior, 1) := by decide +kernel
theorem d3_136 : decode prog_118_method_4_code 136 = .ok (.i2b, 1) := by decide +kernel
theorem d3_137 : decode prog_118_method_4_code 137 = .ok (.bastore, 1) := by decide +kernel
theorem d3_138 : decode prog_118_method_4_code 138 = .ok (.aload_n 1, 1) := by decide +kernel
theorem d3_139 : decode prog_118_method_4_code 139 = .ok (.iload_n 2, 1) := by decide +kernel
theorem d3_140 : decode prog_118_method_4_code 140 = .ok (.iconst 2, 1) := by decide +kernel
theorem d3_141 : decode prog_118_method_4_code 141 = .ok (.iadd, 1) := by decide +kernel
theorem d3_142 : decode prog_118_method_4_code 142 = .ok (.sipush 128, 3) := by decide +kernel
theorem d3_145 : decode prog_118_method_4_code 145 = .ok (.iload_n 0, 1) := by decide +kernel
theorem d3_146 : decode prog_118_method_4_code 146 = .ok (.bipush 6, 2) := by decide +kernel
theorem d3_148 : decode prog_118_method_4_code 148 = .ok (.ishr, 1) := by decide +kernel
theorem d3_149 : decode prog_118_method_4_code 149 = .ok (.bipush 63, 2) := by decide +kernel
theorem d3_151 : decode prog_118_method_4_code 151 = .ok (.iand, 1) := by decide +kernel
theorem d3_152 : decode prog_118_method_4_code 152 = .ok (.ior, 1) := by decide +kernel
theorem d3_153 : decode prog_118_method_4_code 153 = .ok (.i2b, 1) := by decide +kernel
theorem d3_154 : decode prog_118_method_4_code 154 = .ok (.bastore, 1) := by decide +kernel
theorem d3_155 : decode prog_118_method_4_code 155 = .ok (.aload_n 1, 1) := by decide +kernel
theorem d3_156 : decode prog_118_method_4_code 156 = .ok (.iload_n 2, 1) := by decide +kernel
theorem d3_157 : decode prog_118_method_4_code 157 = .ok (.iconst 3, 1) := by decide +kernel
theorem d3_158 : decode prog_118_method_4_code 158 = .ok (.iadd, 1) := by decide +kernel
theorem d3_159 : decode prog_118_method_4_code 159 = .ok (.sipush 128, 3) := by decide +kernel
theorem d3_162 : decode prog_118_method_4_code 162 = .ok (.iload_n 0, 1) := by decide +kernel
theorem d3_163 : decode prog_118_method_4_code 163 = .ok (.bipush 63, 2) := by decide +kernel
theorem d3_165 : decode prog_118_method_4_code 165 = .ok (.iand, 1) := by decide +kernel
theorem d3_166 : decode prog_118_method_4_code 166 = .ok (.ior, 1) := by decide +kernel
theorem d3_167 : decode prog_118_method_4_code 167 = .ok (.i2b, 1) := by decide +kernel
theorem d3_168 : decode prog_118_method_4_code 168 = .ok (.bastore, 1) := by decide +kernel
theorem d3_169 : decode prog_118_method_4_code 169 = .ok (.iconst 4, 1) := by decide +kernel
theorem d3_170 : decode prog_118_method_4_code 170 = .ok (.istore_n 3, 1) := by decide +kernel
theorem d3_171 : decode prog_118_method_4_code 171 = .ok (.iload_n 3, 1) := by decide +kernel
theorem d3_172 : decode prog_118_method_4_code 172 = .ok (.ireturn, 1) := by decide +kernel
theorem ef_3_IRI (m : MethodId) (x0 : Int32) (x1 : Addr) (x2 : Int32) : entryFrame m #[(.int x0), (.ref x1), (.int x2)] 4 = mkF m 0 #[.val (.int x0), .val (.ref x1), .val (.int x2), .unset] [] := by first | (simp [entryFrame, mkF, argsToLocals, Value.category]; done) | rfl
set_option maxRecDepth 65536 in
set_option maxHeartbeats 40000000 in
theorem rm_enc (l : Launch) (Z : State) (a0 : Array Value) (hw : ∀ d ∈ tables_1, d.before a0 Z = true) (p1 : Int32) (a2 : Addr) (k2 : ClassId) (h0 : Heap) (n0 : Nat) (V0 : Arv Z h0 a2 k2 .byte (4 : Int32) [(.int (0 : Int32)), (.int (0 : Int32)), (.int (0 : Int32)), (.int (0 : Int32))] (.int (0 : Int32))) (g2 : n0 ≤ a2) :
    own_Met l Z (⟨"com/example/templum/templum/validation/Utf8", "encode", "(I[BI)I"⟩ : MethodName) prog_118_method_4_code 4 (some .int) ({ frames := 0, cells := 0, slots := 0, locals := 0 } : Room) #[(.int p1), (.ref a2), (.int (0 : Int32))] h0 (fun v h L => v = some (.int (own_n p1)) ∧ Fr n0 L ∧ Keep h0 h [a2] ∧ ∃ w1 w2 w3, Arv Z h a2 k2 .byte (4 : Int32) [.int (own_b0 p1), w1, w2, w3] (.int (0 : Int32))) := by
  intro ws
  refine MetFree.of_bodySF (plainFor_of_name pn_c1) hisR ?_
  intro p e s m args below meth c s₁ Bd hml0 hP hK
  obtain ⟨rfl, hZ, hh⟩ := hP
  have hx := Bd.exec
  have hby := Bd.bytes
  have hml : c.maxLocals = 4 := hml0
  have hown : s.vm.findClass "com/example/templum/templum/validation/Utf8" = some m.cls := findClass_of_methodNamed Bd.named
  have hnm := (name_of_methodNamed Bd.named Bd.method).1
  have hlk : meth.locks = false := Bd.notSynchronized
  have X0 : Stand p l e ({ frames := 0, cells := 0, slots := 0, locals := 0 } : Room) s m #[(.int p1), (.ref a2), (.int (0 : Int32))] below meth c s₁ [] 0 0 := Stand.of_body Bd
  have e0 : s₁.heap = h0 := by rw [← hh, Bd.state]; rfl
  have N0 := Fr.nil n0
  refine own_body (Q := fun v h L => v = some (.int (own_n p1)) ∧ Fr n0 L ∧ Keep h0 h [a2] ∧ ∃ w1 w2 w3, Arv Z h a2 k2 .byte (4 : Int32) [.int (own_b0 p1), w1, w2, w3] (.int (0 : Int32))) ?_
  generalize hΦ : own_Fin s below _ _ _ = Φ
  refine own_cast (ef_3_IRI m p1 a2 (0 : Int32)) ?_
  have K0 := Keep.refl h0 [a2]
  show own_Run p e below Φ (s₁.setTop (mkF m 0 #[.val (.int p1), .val (.ref a2), .val (.int (0 : Int32)), .unset] []))
  refine own_go (fun t k => XS.iloadN X0.here hx rfl (hb hby d3_0) rfl  k) ?_
  refine own_go (fun t k => XS.sipush X0.here hx rfl (hb hby d3_1) k) ?_
  by_cases hc4 : p1 < (128 : Int32)
  · refine own_go (fun t k => XS.icmpNo X0.here hx rfl (hb hby d3_4) rfl (tlt hc4).2.1 k) ?_
    refine own_go (fun t k => XS.aloadN X0.here hx rfl (hb hby d3_7) rfl rfl  k) ?_
    refine own_go (fun t k => XS.iloadN X0.here hx rfl (hb hby d3_8) rfl  k) ?_
    show own_Run p e below Φ (s₁.setTop (mkF m 9 #[.val (.int p1), .val (.ref a2), .val (.int (0 : Int32)), .unset] [(.int (0 : Int32)), (.ref a2)]))
    refine own_go (fun t k => XS.iloadN X0.here hx rfl (hb hby d3_9) rfl  k) ?_
    refine own_go (fun t k => XS.i2b X0.here hx rfl (hb hby d3_10) rfl k) ?_
    refine own_bastore X0 hx hZ e0 V0 (j := (0 : Int32)) ⟨by decide, by decide⟩ 0 rfl (Nat.le_of_ble_eq_true rfl) (g := (mkF m 11 #[.val (.int p1), .val (.ref a2), .val (.int (0 : Int32)), .unset] [(.int (p1.toInt8.toInt32)), (.int (0 : Int32)), (.ref a2)])) rfl rfl (hb hby d3_11) (fun T1 h1 X1 e1 W1 V1 => ?_)
    replace V1 : Arv Z h1 a2 k2 .byte (4 : Int32) [(.int ((p1.toInt8.toInt32).toInt8.toInt32)), (.int (0 : Int32)), (.int (0 : Int32)), (.int (0 : Int32))] (.int (0 : Int32)) := V1
    have N1 := Fr.snoc X1 N0 g2
    refine own_go (fun t k => XS.iconst X1.here hx rfl (hb hby d3_12) k) ?_
    refine own_go (fun t k => XS.istoreN X1.here hx rfl (hb hby d3_13) rfl (l' := #[.val (.int p1), .val (.ref a2), .val (.int (0 : Int32)), .val (.int (1 : Int32))]) rfl k) ?_
    show own_Run p e below Φ (T1.setTop (mkF m 14 #[.val (.int p1), .val (.ref a2), .val (.int (0 : Int32)), .val (.int (1 : Int32))] []))
    refine own_go (fun t k => XS.goto X1.here hx rfl (pc0 := 14) (pc' := 171) rfl (hb hby d3_14) (by decide) (by decide) k) ?_
    refine own_go (fun t k => XS.iloadN X1.here hx rfl (hb hby d3_171) rfl  k) ?_
    have F2 : Keep h0 h1 [a2] := (K0.wr W1 (Or.inl (List.mem_of_getElem? (i := 0) rfl)))
    have eb : ((.int ((p1.toInt8.toInt32).toInt8.toInt32)) : Value) = (.int (own_b0 p1)) := by simp [own_b0, hc4]
    rw [eb] at V1
    subst hΦ
    exact own_retI X1 hx Bd.returns hlk (hb hby d3_172) e1 ⟨(by simp [own_n, hc4]), N1, F2, ⟨_, _, _, V1⟩⟩ (by decide) (by decide)
  · refine own_go (fun t k => XS.icmpYes X0.here hx rfl (pc0 := 4) (pc' := 17) rfl (hb hby d3_4) rfl (flt hc4).2.1 (by decide) (by decide) k) ?_
    refine own_go (fun t k => XS.iloadN X0.here hx rfl (hb hby d3_17) rfl  k) ?_
    refine own_go (fun t k => XS.sipush X0.here hx rfl (hb hby d3_18) k) ?_
    show own_Run p e below Φ (s₁.setTop (mkF m 21 #[.val (.int p1), .val (.ref a2), .val (.int (0 : Int32)), .unset] [(.int (2048 : Int32)), (.int p1)]))
    by_cases hc21 : p1 < (2048 : Int32)
    · refine own_go (fun t k => XS.icmpNo X0.here hx rfl (hb hby d3_21) rfl (tlt hc21).2.1 k) ?_
      refine own_go (fun t k => XS.aloadN X0.here hx rfl (hb hby d3_24) rfl rfl  k) ?_
      refine own_go (fun t k => XS.iloadN X0.here hx rfl (hb hby d3_25) rfl  k) ?_
      refine own_go (fun t k => XS.sipush X0.here hx rfl (hb hby d3_26) k) ?_
      refine own_go (fun t k => XS.iloadN X0.here hx rfl (hb hby d3_29) rfl  k) ?_
      show own_Run p e below Φ (s₁.setTop (mkF m 30 #[.val (.int p1), .val (.ref a2), .val (.int (0 : Int32)), .unset] [(.int p1), (.int (192 : Int32)), (.int (0 : Int32)), (.ref a2)]))
      refine own_go (fun t k => XS.bipush X0.here hx rfl (hb hby d3_30) k) ?_
      refine own_go (fun t k => XS.ishr X0.here hx rfl (hb hby d3_32) rfl k) ?_
      refine own_go (fun t k => XS.ior X0.here hx rfl (hb hby d3_33) rfl k) ?_
      refine own_go (fun t k => XS.i2b X0.here hx rfl (hb hby d3_34) rfl k) ?_
      refine own_bastore X0 hx hZ e0 V0 (j := (0 : Int32)) ⟨by decide, by decide⟩ 0 rfl (Nat.le_of_ble_eq_true rfl) (g := (mkF m 35 #[.val (.int p1), .val (.ref a2), .val (.int (0 : Int32)), .unset] [(.int (((192 : Int32) ||| (p1 >>> ((6 : Int32) &&& 31))).toInt8.toInt32)), (.int (0 : Int32)), (.ref a2)])) rfl rfl (hb hby d3_35) (fun T3 h3 X3 e3 W3 V3 => ?_)
      replace V3 : Arv Z h3 a2 k2 .byte (4 : Int32) [(.int ((((192 : Int32) ||| (p1 >>> ((6 : Int32) &&& 31))).toInt8.toInt32).toInt8.toInt32)), (.int (0 : Int32)), (.int (0 : Int32)), (.int (0 : Int32))] (.int (0 : Int32)) := V3
      have N3 := Fr.snoc X3 N0 g2
      show own_Run p e below Φ (T3.setTop (mkF m 36 #[.val (.int p1), .val (.ref a2), .val (.int (0 : Int32)), .unset] []))
      refine own_go (fun t k => XS.aloadN X3.here hx rfl (hb hby d3_36) rfl rfl  k) ?_
      refine own_go (fun t k => XS.iloadN X3.here hx rfl (hb hby d3_37) rfl  k) ?_
      refine own_go (fun t k => XS.iconst X3.here hx rfl (hb hby d3_38) k) ?_
      refine own_go (fun t k => XS.iadd X3.here hx rfl (hb hby d3_39) rfl k) ?_
      show own_Run p e below Φ (T3.setTop (mkF m 40 #[.val (.int p1), .val (.ref a2), .val (.int (0 : Int32)), .unset] [(.int ((0 : Int32) + (1 : Int32))), (.ref a2)]))
      rw [show ((0 : Int32) + (1 : Int32)) = (1 : Int32) from by decide]
      show own_Run p e below Φ (T3.setTop (mkF m 40 #[.val (.int p1), .val (.ref a2), .val (.int (0 : Int32)), .unset] [(.int (1 : Int32)), (.ref a2)]))
      refine own_go (fun t k => XS.sipush X3.here hx rfl (hb hby d3_40) k) ?_
      refine own_go (fun t k => XS.iloadN X3.here hx rfl (hb hby d3_43) rfl  k) ?_
      refine own_go (fun t k => XS.bipush X3.here hx rfl (hb hby d3_44) k) ?_
      refine own_go (fun t k => XS.iand X3.here hx rfl (hb hby d3_46) rfl k) ?_
      refine own_go (fun t k => XS.ior X3.here hx rfl (hb hby d3_47) rfl k) ?_
      show own_Run p e below Φ (T3.setTop (mkF m 48 #[.val (.int p1), .val (.ref a2), .val (.int (0 : Int32)), .unset] [(.int ((128 : Int32) ||| (p1 &&& (63 : Int32)))), (.int (1 : Int32)), (.ref a2)]))
      refine own_go (fun t k => XS.i2b X3.here hx rfl (hb hby d3_48) rfl k) ?_
      refine own_bastore X3 hx hZ e3 V3 (j := (1 : Int32)) ⟨by decide, by decide⟩ 1 rfl (Nat.le_of_ble_eq_true rfl) (g := (mkF m 49 #[.val (.int p1), .val (.ref a2), .val (.int (0 : Int32)), .unset] [(.int (((128 : Int32) ||| (p1 &&& (63 : Int32))).toInt8.toInt32)), (.int (1 : Int32)), (.ref a2)])) rfl rfl (hb hby d3_49) (fun T4 h4 X4 e4 W4 V4 => ?_)
      replace V4 : Arv Z h4 a2 k2 .byte (4 : Int32) [(.int ((((192 : Int32) ||| (p1 >>> ((6 : Int32) &&& 31))).toInt8.toInt32).toInt8.toInt32)), (.int ((((128 : Int32) ||| (p1 &&& (63 : Int32))).toInt8.toInt32).toInt8.toInt32)), (.int (0 : Int32)), (.int (0 : Int32))] (.int (0 : Int32)) := V4
      have N4 := Fr.snoc X4 N3 g2
      refine own_go (fun t k => XS.iconst X4.here hx rfl (hb hby d3_50) k) ?_
      refine own_go (fun t k => XS.istoreN X4.here hx rfl (hb hby d3_51) rfl (l' := #[.val (.int p1), .val (.ref a2), .val (.int (0 : Int32)), .val (.int (2 : Int32))]) rfl k) ?_
      refine own_go (fun t k => XS.goto X4.here hx rfl (pc0 := 52) (pc' := 171) rfl (hb hby d3_52) (by decide) (by decide) k) ?_
      show own_Run p e below Φ (T4.setTop (mkF m 171 #[.val (.int p1), .val (.ref a2), .val (.int (0 : Int32)), .val (.int (2 : Int32))] []))
      refine own_go (fun t k => XS.iloadN X4.here hx rfl (hb hby d3_171) rfl  k) ?_
      have F5 : Keep h0 h4 [a2] := ((K0.wr W3 (Or.inl (List.mem_of_getElem? (i := 0) rfl))).wr W4 (Or.inl (List.mem_of_getElem? (i := 0) rfl)))
      have eb : ((.int ((((192 : Int32) ||| (p1 >>> ((6 : Int32) &&& 31))).toInt8.toInt32).toInt8.toInt32)) : Value) = (.int (own_b0 p1)) := by simp [own_b0, hc21, hc4]
      rw [eb] at V4
      subst hΦ
      exact own_retI X4 hx Bd.returns hlk (hb hby d3_172) e4 ⟨(by simp [own_n, hc21, hc4]), N4, F5, ⟨_, _, _, V4⟩⟩ (by decide) (by decide)
    · refine own_go (fun t k => XS.icmpYes X0.here hx rfl (pc0 := 21) (pc' := 55) rfl (hb hby d3_21) rfl (flt hc21).2.1 (by decide) (by decide) k) ?_
      refine own_go (fun t k => XS.iloadN X0.here hx rfl (hb hby d3_55) rfl  k) ?_
      refine own_go (X0.ldcInt hx hown (mvT hZ (hw _ (List.mem_of_getElem? (i := 16) rfl))) (g := (mkF m 56 #[.val (.int p1), .val (.ref a2), .val (.int (0 : Int32)), .unset] [(.int p1)])) rfl (hb hby d3_56)) ?_
      by_cases hc58 : p1 < (65536 : Int32)
      · refine own_go (fun t k => XS.icmpNo X0.here hx rfl (hb hby d3_58) rfl (tlt hc58).2.1 k) ?_
        show own_Run p e below Φ (s₁.setTop (mkF m 61 #[.val (.int p1), .val (.ref a2), .val (.int (0 : Int32)), .unset] []))
        refine own_go (fun t k => XS.aloadN X0.here hx rfl (hb hby d3_61) rfl rfl  k) ?_
        refine own_go (fun t k => XS.iloadN X0.here hx rfl (hb hby d3_62) rfl  k) ?_
        refine own_go (fun t k => XS.sipush X0.here hx rfl (hb hby d3_63) k) ?_
        refine own_go (fun t k => XS.iloadN X0.here hx rfl (hb hby d3_66) rfl  k) ?_
        refine own_go (fun t k => XS.bipush X0.here hx rfl (hb hby d3_67) k) ?_
        show own_Run p e below Φ (s₁.setTop (mkF m 69 #[.val (.int p1), .val (.ref a2), .val (.int (0 : Int32)), .unset] [(.int (12 : Int32)), (.int p1), (.int (224 : Int32)), (.int (0 : Int32)), (.ref a2)]))
        refine own_go (fun t k => XS.ishr X0.here hx rfl (hb hby d3_69) rfl k) ?_
        refine own_go (fun t k => XS.ior X0.here hx rfl (hb hby d3_70) rfl k) ?_
        refine own_go (fun t k => XS.i2b X0.here hx rfl (hb hby d3_71) rfl k) ?_
        refine own_bastore X0 hx hZ e0 V0 (j := (0 : Int32)) ⟨by decide, by decide⟩ 0 rfl (Nat.le_of_ble_eq_true rfl) (g := (mkF m 72 #[.val (.int p1), .val (.ref a2), .val (.int (0 : Int32)), .unset] [(.int (((224 : Int32) ||| (p1 >>> ((12 : Int32) &&& 31))).toInt8.toInt32)), (.int (0 : Int32)), (.ref a2)])) rfl rfl (hb hby d3_72) (fun T6 h6 X6 e6 W6 V6 => ?_)
        replace V6 : Arv Z h6 a2 k2 .byte (4 : Int32) [(.int ((((224 : Int32) ||| (p1 >>> ((12 : Int32) &&& 31))).toInt8.toInt32).toInt8.toInt32)), (.int (0 : Int32)), (.int (0 : Int32)), (.int (0 : Int32))] (.int (0 : Int32)) := V6
        have N6 := Fr.snoc X6 N0 g2
        refine own_go (fun t k => XS.aloadN X6.here hx rfl (hb hby d3_73) rfl rfl  k) ?_
        show own_Run p e below Φ (T6.setTop (mkF m 74 #[.val (.int p1), .val (.ref a2), .val (.int (0 : Int32)), .unset] [(.ref a2)]))
        refine own_go (fun t k => XS.iloadN X6.here hx rfl (hb hby d3_74) rfl  k) ?_
        refine own_go (fun t k => XS.iconst X6.here hx rfl (hb hby d3_75) k) ?_
        refine own_go (fun t k => XS.iadd X6.here hx rfl (hb hby d3_76) rfl k) ?_
        show own_Run p e below Φ (T6.setTop (mkF m 77 #[.val (.int p1), .val (.ref a2), .val (.int (0 : Int32)), .unset] [(.int ((0 : Int32) + (1 : Int32))), (.ref a2)]))
        rw [show ((0 : Int32) + (1 : Int32)) = (1 : Int32) from by decide]
        show own_Run p e below Φ (T6.setTop (mkF m 77 #[.val (.int p1), .val (.ref a2), .val (.int (0 : Int32)), .unset] [(.int (1 : Int32)), (.ref a2)]))
        refine own_go (fun t k => XS.sipush X6.here hx rfl (hb hby d3_77) k) ?_
        refine own_go (fun t k => XS.iloadN X6.here hx rfl (hb hby d3_80) rfl  k) ?_
        refine own_go (fun t k => XS.bipush X6.here hx rfl (hb hby d3_81) k) ?_
        refine own_go (fun t k => XS.ishr X6.here hx rfl (hb hby d3_83) rfl k) ?_
        refine own_go (fun t k => XS.bipush X6.here hx rfl (hb hby d3_84) k) ?_
        show own_Run p e below Φ (T6.setTop (mkF m 86 #[.val (.int p1), .val (.ref a2), .val (.int (0 : Int32)), .unset] [(.int (63 : Int32)), (.int (p1 >>> ((6 : Int32) &&& 31))), (.int (128 : Int32)), (.int (1 : Int32)), (.ref a2)]))
        refine own_go (fun t k => XS.iand X6.here hx rfl (hb hby d3_86) rfl k) ?_
        refine own_go (fun t k => XS.ior X6.here hx rfl (hb hby d3_87) rfl k) ?_
        refine own_go (fun t k => XS.i2b X6.here hx rfl (hb hby d3_88) rfl k) ?_
        refine own_bastore X6 hx hZ e6 V6 (j := (1 : Int32)) ⟨by decide, by decide⟩ 1 rfl (Nat.le_of_ble_eq_true rfl) (g := (mkF m 89 #[.val (.int p1), .val (.ref a2), .val (.int (0 : Int32)), .unset] [(.int (((128 : Int32) ||| ((p1 >>> ((6 : Int32) &&& 31)) &&& (63 : Int32))).toInt8.toInt32)), (.int (1 : Int32)), (.ref a2)])) rfl rfl (hb hby d3_89) (fun T7 h7 X7 e7 W7 V7 => ?_)
        replace V7 : Arv Z h7 a2 k2 .byte (4 : Int32) [(.int ((((224 : Int32) ||| (p1 >>> ((12 : Int32) &&& 31))).toInt8.toInt32).toInt8.toInt32)), (.int ((((128 : Int32) ||| ((p1 >>> ((6 : Int32) &&& 31)) &&& (63 : Int32))).toInt8.toInt32).toInt8.toInt32)), (.int (0 : Int32)), (.int (0 : Int32))] (.int (0 : Int32)) := V7
        have N7 := Fr.snoc X7 N6 g2
        refine own_go (fun t k => XS.aloadN X7.here hx rfl (hb hby d3_90) rfl rfl  k) ?_
        show own_Run p e below Φ (T7.setTop (mkF m 91 #[.val (.int p1), .val (.ref a2), .val (.int (0 : Int32)), .unset] [(.ref a2)]))
        refine own_go (fun t k => XS.iloadN X7.here hx rfl (hb hby d3_91) rfl  k) ?_
        refine own_go (fun t k => XS.iconst X7.here hx rfl (hb hby d3_92) k) ?_
        refine own_go (fun t k => XS.iadd X7.here hx rfl (hb hby d3_93) rfl k) ?_
        show own_Run p e below Φ (T7.setTop (mkF m 94 #[.val (.int p1), .val (.ref a2), .val (.int (0 : Int32)), .unset] [(.int ((0 : Int32) + (2 : Int32))), (.ref a2)]))
        rw [show ((0 : Int32) + (2 : Int32)) = (2 : Int32) from by decide]
        show own_Run p e below Φ (T7.setTop (mkF m 94 #[.val (.int p1), .val (.ref a2), .val (.int (0 : Int32)), .unset] [(.int (2 : Int32)), (.ref a2)]))
        refine own_go (fun t k => XS.sipush X7.here hx rfl (hb hby d3_94) k) ?_
        refine own_go (fun t k => XS.iloadN X7.here hx rfl (hb hby d3_97) rfl  k) ?_
        refine own_go (fun t k => XS.bipush X7.here hx rfl (hb hby d3_98) k) ?_
        refine own_go (fun t k => XS.iand X7.here hx rfl (hb hby d3_100) rfl k) ?_
        refine own_go (fun t k => XS.ior X7.here hx rfl (hb hby d3_101) rfl k) ?_
        show own_Run p e below Φ (T7.setTop (mkF m 102 #[.val (.int p1), .val (.ref a2), .val (.int (0 : Int32)), .unset] [(.int ((128 : Int32) ||| (p1 &&& (63 : Int32)))), (.int (2 : Int32)), (.ref a2)]))
        refine own_go (fun t k => XS.i2b X7.here hx rfl (hb hby d3_102) rfl k) ?_
        refine own_bastore X7 hx hZ e7 V7 (j := (2 : Int32)) ⟨by decide, by decide⟩ 2 rfl (Nat.le_of_ble_eq_true rfl) (g := (mkF m 103 #[.val (.int p1), .val (.ref a2), .val (.int (0 : Int32)), .unset] [(.int (((128 : Int32) ||| (p1 &&& (63 : Int32))).toInt8.toInt32)), (.int (2 : Int32)), (.ref a2)])) rfl rfl (hb hby d3_103) (fun T8 h8 X8 e8 W8 V8 => ?_)
        replace V8 : Arv Z h8 a2 k2 .byte (4 : Int32) [(.int ((((224 : Int32) ||| (p1 >>> ((12 : Int32) &&& 31))).toInt8.toInt32).toInt8.toInt32)), (.int ((((128 : Int32) ||| ((p1 >>> ((6 : Int32) &&& 31)) &&& (63 : Int32))).toInt8.toInt32).toInt8.toInt32)), (.int ((((128 : Int32) ||| (p1 &&& (63 : Int32))).toInt8.toInt32).toInt8.toInt32)), (.int (0 : Int32))] (.int (0 : Int32)) := V8
        have N8 := Fr.snoc X8 N7 g2
        refine own_go (fun t k => XS.iconst X8.here hx rfl (hb hby d3_104) k) ?_
        refine own_go (fun t k => XS.istoreN X8.here hx rfl (hb hby d3_105) rfl (l' := #[.val (.int p1), .val (.ref a2), .val (.int (0 : Int32)), .val (.int (3 : Int32))]) rfl k) ?_
        refine own_go (fun t k => XS.goto X8.here hx rfl (pc0 := 106) (pc' := 171) rfl (hb hby d3_106) (by decide) (by decide) k) ?_
        show own_Run p e below Φ (T8.setTop (mkF m 171 #[.val (.int p1), .val (.ref a2), .val (.int (0 : Int32)), .val (.int (3 : Int32))] []))
        refine own_go (fun t k => XS.iloadN X8.here hx rfl (hb hby d3_171) rfl  k) ?_
        have F9 : Keep h0 h8 [a2] := (((K0.wr W6 (Or.inl (List.mem_of_getElem? (i := 0) rfl))).wr W7 (Or.inl (List.mem_of_getElem? (i := 0) rfl))).wr W8 (Or.inl (List.mem_of_getElem? (i := 0) rfl)))
        have eb : ((.int ((((224 : Int32) ||| (p1 >>> ((12 : Int32) &&& 31))).toInt8.toInt32).toInt8.toInt32)) : Value) = (.int (own_b0 p1)) := by simp [own_b0, hc21, hc4, hc58]
        rw [eb] at V8
        subst hΦ
        exact own_retI X8 hx Bd.returns hlk (hb hby d3_172) e8 ⟨(by simp [own_n, hc21, hc4, hc58]), N8, F9, ⟨_, _, _, V8⟩⟩ (by decide) (by decide)
      · refine own_go (fun t k => XS.icmpYes X0.here hx rfl (pc0 := 58) (pc' := 109) rfl (hb hby d3_58) rfl (flt hc58).2.1 (by decide) (by decide) k) ?_
        refine own_go (fun t k => XS.aloadN X0.here hx rfl (hb hby d3_109) rfl rfl  k) ?_
        refine own_go (fun t k => XS.iloadN X0.here hx rfl (hb hby d3_110) rfl  k) ?_
        refine own_go (fun t k => XS.sipush X0.here hx rfl (hb hby d3_111) k) ?_
        show own_Run p e below Φ (s₁.setTop (mkF m 114 #[.val (.int p1), .val (.ref a2), .val (.int (0 : Int32)), .unset] [(.int (240 : Int32)), (.int (0 : Int32)), (.ref a2)]))
        refine own_go (fun t k => XS.iloadN X0.here hx rfl (hb hby d3_114) rfl  k) ?_
        refine own_go (fun t k => XS.bipush X0.here hx rfl (hb hby d3_115) k) ?_
        refine own_go (fun t k => XS.ishr X0.here hx rfl (hb hby d3_117) rfl k) ?_
        refine own_go (fun t k => XS.ior X0.here hx rfl (hb hby d3_118) rfl k) ?_
        refine own_go (fun t k => XS.i2b X0.here hx rfl (hb hby d3_119) rfl k) ?_
        show own_Run p e below Φ (s₁.setTop (mkF m 120 #[.val (.int p1), .val (.ref a2), .val (.int (0 : Int32)), .unset] [(.int (((240 : Int32) ||| (p1 >>> ((18 : Int32) &&& 31))).toInt8.toInt32)), (.int (0 : Int32)), (.ref a2)]))
        refine own_bastore X0 hx hZ e0 V0 (j := (0 : Int32)) ⟨by decide, by decide⟩ 0 rfl (Nat.le_of_ble_eq_true rfl) (g := (mkF m 120 #[.val (.int p1), .val (.ref a2), .val (.int (0 : Int32)), .unset] [(.int (((240 : Int32) ||| (p1 >>> ((18 : Int32) &&& 31))).toInt8.toInt32)), (.int (0 : Int32)), (.ref a2)])) rfl rfl (hb hby d3_120) (fun T10 h10 X10 e10 W10 V10 => ?_)
        replace V10 : Arv Z h10 a2 k2 .byte (4 : Int32) [(.int ((((240 : Int32) ||| (p1 >>> ((18 : Int32) &&& 31))).toInt8.toInt32).toInt8.toInt32)), (.int (0 : Int32)), (.int (0 : Int32)), (.int (0 : Int32))] (.int (0 : Int32)) := V10
        have N10 := Fr.snoc X10 N0 g2
        refine own_go (fun t k => XS.aloadN X10.here hx rfl (hb hby d3_121) rfl rfl  k) ?_
        refine own_go (fun t k => XS.iloadN X10.here hx rfl (hb hby d3_122) rfl  k) ?_
        refine own_go (fun t k => XS.iconst X10.here hx rfl (hb hby d3_123) k) ?_
        refine own_go (fun t k => XS.iadd X10.here hx rfl (hb hby d3_124) rfl k) ?_
        show own_Run p e below Φ (T10.setTop (mkF m 125 #[.val (.int p1), .val (.ref a2), .val (.int (0 : Int32)), .unset] [(.int ((0 : Int32) + (1 : Int32))), (.ref a2)]))
        rw [show ((0 : Int32) + (1 : Int32)) = (1 : Int32) from by decide]
        show own_Run p e below Φ (T10.setTop (mkF m 125 #[.val (.int p1), .val (.ref a2), .val (.int (0 : Int32)), .unset] [(.int (1 : Int32)), (.ref a2)]))
        refine own_go (fun t k => XS.sipush X10.here hx rfl (hb hby d3_125) k) ?_
        refine own_go (fun t k => XS.iloadN X10.here hx rfl (hb hby d3_128) rfl  k) ?_
        refine own_go (fun t k => XS.bipush X10.here hx rfl (hb hby d3_129) k) ?_
        refine own_go (fun t k => XS.ishr X10.here hx rfl (hb hby d3_131) rfl k) ?_
        refine own_go (fun t k => XS.bipush X10.here hx rfl (hb hby d3_132) k) ?_
        show own_Run p e below Φ (T10.setTop (mkF m 134 #[.val (.int p1), .val (.ref a2), .val (.int (0 : Int32)), .unset] [(.int (63 : Int32)), (.int (p1 >>> ((12 : Int32) &&& 31))), (.int (128 : Int32)), (.int (1 : Int32)), (.ref a2)]))
        refine own_go (fun t k => XS.iand X10.here hx rfl (hb hby d3_134) rfl k) ?_
        refine own_go (fun t k => XS.ior X10.here hx rfl (hb hby d3_135) rfl k) ?_
        refine own_go (fun t k => XS.i2b X10.here hx rfl (hb hby d3_136) rfl k) ?_
        refine own_bastore X10 hx hZ e10 V10 (j := (1 : Int32)) ⟨by decide, by decide⟩ 1 rfl (Nat.le_of_ble_eq_true rfl) (g := (mkF m 137 #[.val (.int p1), .val (.ref a2), .val (.int (0 : Int32)), .unset] [(.int (((128 : Int32) ||| ((p1 >>> ((12 : Int32) &&& 31)) &&& (63 : Int32))).toInt8.toInt32)), (.int (1 : Int32)), (.ref a2)])) rfl rfl (hb hby d3_137) (fun T11 h11 X11 e11 W11 V11 => ?_)
        replace V11 : Arv Z h11 a2 k2 .byte (4 : Int32) [(.int ((((240 : Int32) ||| (p1 >>> ((18 : Int32) &&& 31))).toInt8.toInt32).toInt8.toInt32)), (.int ((((128 : Int32) ||| ((p1 >>> ((12 : Int32) &&& 31)) &&& (63 : Int32))).toInt8.toInt32).toInt8.toInt32)), (.int (0 : Int32)), (.int (0 : Int32))] (.int (0 : Int32)) := V11
        have N11 := Fr.snoc X11 N10 g2
        refine own_go (fun t k => XS.aloadN X11.here hx rfl (hb hby d3_138) rfl rfl  k) ?_
        show own_Run p e below Φ (T11.setTop (mkF m 139 #[.val (.int p1), .val (.ref a2), .val (.int (0 : Int32)), .unset] [(.ref a2)]))
        refine own_go (fun t k => XS.iloadN X11.here hx rfl (hb hby d3_139) rfl  k) ?_
        refine own_go (fun t k => XS.iconst X11.here hx rfl (hb hby d3_140) k) ?_
        refine own_go (fun t k => XS.iadd X11.here hx rfl (hb hby d3_141) rfl k) ?_
        show own_Run p e below Φ (T11.setTop (mkF m 142 #[.val (.int p1), .val (.ref a2), .val (.int (0 : Int32)), .unset] [(.int ((0 : Int32) + (2 : Int32))), (.ref a2)]))
        rw [show ((0 : Int32) + (2 : Int32)) = (2 : Int32) from by decide]
        show own_Run p e below Φ (T11.setTop (mkF m 142 #[.val (.int p1), .val (.ref a2), .val (.int (0 : Int32)), .unset] [(.int (2 : Int32)), (.ref a2)]))
        refine own_go (fun t k => XS.sipush X11.here hx rfl (hb hby d3_142) k) ?_
        refine own_go (fun t k => XS.iloadN X11.here hx rfl (hb hby d3_145) rfl  k) ?_
        refine own_go (fun t k => XS.bipush X11.here hx rfl (hb hby d3_146) k) ?_
        refine own_go (fun t k => XS.ishr X11.here hx rfl (hb hby d3_148) rfl k) ?_
        refine own_go (fun t k => XS.bipush X11.here hx rfl (hb hby d3_149) k) ?_
        show own_Run p e below Φ (T11.setTop (mkF m 151 #[.val (.int p1), .val (.ref a2), .val (.int (0 : Int32)), .unset] [(.int (63 : Int32)), (.int (p1 >>> ((6 : Int32) &&& 31))), (.int (128 : Int32)), (.int (2 : Int32)), (.ref a2)]))
        refine own_go (fun t k => XS.iand X11.here hx rfl (hb hby d3_151) rfl k) ?_
        refine own_go (fun t k => XS.ior X11.here hx rfl (hb hby d3_152) rfl k) ?_
        refine own_go (fun t k => XS.i2b X11.here hx rfl (hb hby d3_153) rfl k) ?_
        refine own_bastore X11 hx hZ e11 V11 (j := (2 : Int32)) ⟨by decide, by decide⟩ 2 rfl (Nat.le_of_ble_eq_true rfl) (g := (mkF m 154 #[.val (.int p1), .val (.ref a2), .val (.int (0 : Int32)), .unset] [(.int (((128 : Int32) ||| ((p1 >>> ((6 : Int32) &&& 31)) &&& (63 : Int32))).toInt8.toInt32)), (.int (2 : Int32)), (.ref a2)])) rfl rfl (hb hby d3_154) (fun T12 h12 X12 e12 W12 V12 => ?_)
        replace V12 : Arv Z h12 a2 k2 .byte (4 : Int32) [(.int ((((240 : Int32) ||| (p1 >>> ((18 : Int32) &&& 31))).toInt8.toInt32).toInt8.toInt32)), (.int ((((128 : Int32) ||| ((p1 >>> ((12 : Int32) &&& 31)) &&& (63 : Int32))).toInt8.toInt32).toInt8.toInt32)), (.int ((((128 : Int32) ||| ((p1 >>> ((6 : Int32) &&& 31)) &&& (63 : Int32))).toInt8.toInt32).toInt8.toInt32)), (.int (0 : Int32))] (.int (0 : Int32)) := V12
        have N12 := Fr.snoc X12 N11 g2
        refine own_go (fun t k => XS.aloadN X12.here hx rfl (hb hby d3_155) rfl rfl  k) ?_
        show own_Run p e below Φ (T12.setTop (mkF m 156 #[.val (.int p1), .val (.ref a2), .val (.int (0 : Int32)), .unset] [(.ref a2)]))
        refine own_go (fun t k => XS.iloadN X12.here hx rfl (hb hby d3_156) rfl  k) ?_
        refine own_go (fun t k => XS.iconst X12.here hx rfl (hb hby d3_157) k) ?_
        refine own_go (fun t k => XS.iadd X12.here hx rfl (hb hby d3_158) rfl k) ?_
        show own_Run p e below Φ (T12.setTop (mkF m 159 #[.val (.int p1), .val (.ref a2), .val (.int (0 : Int32)), .unset] [(.int ((0 : Int32) + (3 : Int32))), (.ref a2)]))
        rw [show ((0 : Int32) + (3 : Int32)) = (3 : Int32) from by decide]
        show own_Run p e below Φ (T12.setTop (mkF m 159 #[.val (.int p1), .val (.ref a2), .val (.int (0 : Int32)), .unset] [(.int (3 : Int32)), (.ref a2)]))
        refine own_go (fun t k => XS.sipush X12.here hx rfl (hb hby d3_159) k) ?_
        refine own_go (fun t k => XS.iloadN X12.here hx rfl (hb hby d3_162) rfl  k) ?_
        refine own_go (fun t k => XS.bipush X12.here hx rfl (hb hby d3_163) k) ?_
        refine own_go (fun t k => XS.iand X12.here hx rfl (hb hby d3_165) rfl k) ?_
        refine own_go (fun t k => XS.ior X12.here hx rfl (hb hby d3_166) rfl k) ?_
        show own_Run p e below Φ (T12.setTop (mkF m 167 #[.val (.int p1), .val (.ref a2), .val (.int (0 : Int32)), .unset] [(.int ((128 : Int32) ||| (p1 &&& (63 : Int32)))), (.int (3 : Int32)), (.ref a2)]))
        refine own_go (fun t k => XS.i2b X12.here hx rfl (hb hby d3_167) rfl k) ?_
        refine own_bastore X12 hx hZ e12 V12 (j := (3 : Int32)) ⟨by decide, by decide⟩ 3 rfl (Nat.le_of_ble_eq_true rfl) (g := (mkF m 168 #[.val (.int p1), .val (.ref a2), .val (.int (0 : Int32)), .unset] [(.int (((128 : Int32) ||| (p1 &&& (63 : Int32))).toInt8.toInt32)), (.int (3 : Int32)), (.ref a2)])) rfl rfl (hb hby d3_168) (fun T13 h13 X13 e13 W13 V13 => ?_)
        replace V13 : Arv Z h13 a2 k2 .byte (4 : Int32) [(.int ((((240 : Int32) ||| (p1 >>> ((18 : Int32) &&& 31))).toInt8.toInt32).toInt8.toInt32)), (.int ((((128 : Int32) ||| ((p1 >>> ((12 : Int32) &&& 31)) &&& (63 : Int32))).toInt8.toInt32).toInt8.toInt32)), (.int ((((128 : Int32) ||| ((p1 >>> ((6 : Int32) &&& 31)) &&& (63 : Int32))).toInt8.toInt32).toInt8.toInt32)), (.int ((((128 : Int32) ||| (p1 &&& (63 : Int32))).toInt8.toInt32).toInt8.toInt32))] (.int (0 : Int32)) := V13
        have N13 := Fr.snoc X13 N12 g2
        refine own_go (fun t k => XS.iconst X13.here hx rfl (hb hby d3_169) k) ?_
        refine own_go (fun t k => XS.istoreN X13.here hx rfl (hb hby d3_170) rfl (l' := #[.val (.int p1), .val (.ref a2), .val (.int (0 : Int32)), .val (.int (4 : Int32))]) rfl k) ?_
        refine own_go (fun t k => XS.iloadN X13.here hx rfl (hb hby d3_171) rfl  k) ?_
        show own_Run p e below Φ (T13.setTop (mkF m 172 #[.val (.int p1), .val (.ref a2), .val (.int (0 : Int32)), .val (.int (4 : Int32))] [(.int (4 : Int32))]))
        have F14 : Keep h0 h13 [a2] := ((((K0.wr W10 (Or.inl (List.mem_of_getElem? (i := 0) rfl))).wr W11 (Or.inl (List.mem_of_getElem? (i := 0) rfl))).wr W12 (Or.inl (List.mem_of_getElem? (i := 0) rfl))).wr W13 (Or.inl (List.mem_of_getElem? (i := 0) rfl)))
        have eb : ((.int ((((240 : Int32) ||| (p1 >>> ((18 : Int32) &&& 31))).toInt8.toInt32).toInt8.toInt32)) : Value) = (.int (own_b0 p1)) := by simp [own_b0, hc21, hc4, hc58]
        rw [eb] at V13
        subst hΦ
        exact own_retI X13 hx Bd.returns hlk (hb hby d3_172) e13 ⟨(by simp [own_n, hc21, hc4, hc58]), N13, F14, ⟨_, _, _, V13⟩⟩ (by decide) (by decide)
theorem pd_0 : parseMethodDescriptor "(B)I" = some ⟨[.byte], some .int⟩ := by decide +kernel
theorem pd_1 : parseMethodDescriptor "(I)I" = some ⟨[.int], some .int⟩ := by decide +kernel
theorem pd_2 : parseMethodDescriptor "(I[BI)I" = some ⟨[.int, (.array .byte), .int], some .int⟩ := by decide +kernel
theorem ef_0_II (m : MethodId) (x0 : Int32) (x1 : Int32) : entryFrame m #[(.int x0), (.int x1)] maxLocals = mkF m 0 #[.val (.int x0), .val (.int x1), .unset, .unset, .unset, .unset, .unset, .unset, .unset] [] := by first | (simp [entryFrame, mkF, argsToLocals, Value.category, maxLocals]; done) | rfl
set_option maxRecDepth 65536 in
set_option maxHeartbeats 40000000 in
theorem rm_law (l : Launch) (Z : State) (a0 : Array Value) (hw : ∀ d ∈ tables_1, d.before a0 Z = true) (p1 : Int32) (p2 : Int32) (h0 : Heap) (n0 : Nat) (Z0 : n0 ≤ h0.size) :
    own_Met l Z x code maxLocals ret room_1 #[(.int p1), (.int p2)] h0 (fun v h L => v = some (.int 1) ∧ Fr n0 L) := by
  intro ws
  refine MetFree.of_bodySF (plainFor_of_name pn_c0) hisR ?_
  intro p e s m args below meth c s₁ Bd hml0 hP hK
  obtain ⟨rfl, hZ, hh⟩ := hP
  have hx := Bd.exec
  have hby := Bd.bytes
  have hml : c.maxLocals = 9 := hml0
  have hown : s.vm.findClass "com/example/templum/templum/validation/Utf8LengthPinLaw" = some m.cls := findClass_of_methodNamed Bd.named
  have hnm := (name_of_methodNamed Bd.named Bd.method).1
  have hlk : meth.locks = false := Bd.notSynchronized
  have X0 : Stand p l e room_1 s m #[(.int p1), (.int p2)] below meth c s₁ [] 0 0 := Stand.of_body Bd
  have e0 : s₁.heap = h0 := by rw [← hh, Bd.state]; rfl
  have N0 := Fr.nil n0
  refine own_body (Q := fun v h L => v = some (.int 1) ∧ Fr n0 L) ?_
  generalize hΦ : own_Fin s below _ _ _ = Φ
  refine own_cast (ef_0_II m p1 p2) ?_
  show own_Run p e below Φ (s₁.setTop (mkF m 0 #[.val (.int p1), .val (.int p2), .unset, .unset, .unset, .unset, .unset, .unset, .unset] []))
  refine own_go (fun t k => XS.iloadN X0.here hx rfl (hb hby at_0) rfl  k) ?_
  refine own_go (fun t k => XS.i2b X0.here hx rfl (hb hby at_1) rfl k) ?_
  refine own_go (fun t k => XS.istoreN X0.here hx rfl (hb hby at_2) rfl (l' := #[.val (.int p1), .val (.int p2), .val (.int (p1.toInt8.toInt32)), .unset, .unset, .unset, .unset, .unset, .unset]) rfl k) ?_
  refine own_go (fun t k => XS.iloadN X0.here hx rfl (hb hby at_3) rfl  k) ?_
  refine own_go (fun t k => XS.sipush X0.here hx rfl (hb hby at_4) k) ?_
  show own_Run p e below Φ (s₁.setTop (mkF m 7 #[.val (.int p1), .val (.int p2), .val (.int (p1.toInt8.toInt32)), .unset, .unset, .unset, .unset, .unset, .unset] [(.int (255 : Int32)), (.int p1)]))
  refine own_go (fun t k => XS.iand X0.here hx rfl (hb hby at_7) rfl k) ?_
  refine own_go (fun t k => XS.istoreN X0.here hx rfl (hb hby at_8) rfl (l' := #[.val (.int p1), .val (.int p2), .val (.int (p1.toInt8.toInt32)), .val (.int (p1 &&& (255 : Int32))), .unset, .unset, .unset, .unset, .unset]) rfl k) ?_
  refine own_go (fun t k => XS.iloadN X0.here hx rfl (hb hby at_9) rfl  k) ?_
  refine own_callS X0 hx hZ (y := (⟨"com/example/templum/templum/validation/Utf8", "length", "(B)I"⟩ : MethodName)) (W := 0) (argsL := [(.int (p1.toInt8.toInt32))]) (rest := []) hown (hw _ (List.mem_of_getElem? (i := 0) rfl)) (hw _ (List.mem_of_getElem? (i := 1) rfl)) (hw _ (List.mem_of_getElem? (i := 2) rfl)) (hw _ (List.mem_of_getElem? (i := 3) rfl)) (by decide) (own_bk (rm_len l Z a0 hw (p1.toInt8.toInt32) h0 n0) hZ (hw _ (List.mem_of_getElem? (i := 3) rfl)) (hw _ (List.mem_of_getElem? (i := 2) rfl)) (by decide) (by decide)) e0 (g := (mkF m 10 #[.val (.int p1), .val (.int p2), .val (.int (p1.toInt8.toInt32)), .val (.int (p1 &&& (255 : Int32))), .unset, .unset, .unset, .unset, .unset] [(.int (p1.toInt8.toInt32))])) rfl (by rw [hml]; rfl) (lenOf pd_0 rfl) rfl (by show 2 * 0 + _ ≤ _; exact Nat.le_of_eq rfl) (hb hby at_10) (by decide) (by decide) (fun v1 T1 h1 L1 X1 e1 q1 => ?_)
  obtain ⟨rfl, M1, s1⟩ := q1
  replace e1 : T1.heap = h0 := e1.trans s1
  have N1 := Fr.app N0 M1
  refine own_go (fun t k => XS.iloadN X1.here hx rfl (hb hby at_13) rfl  k) ?_
  show own_Run p e below Φ (T1.setTop (mkF m 14 #[.val (.int p1), .val (.int p2), .val (.int (p1.toInt8.toInt32)), .val (.int (p1 &&& (255 : Int32))), .unset, .unset, .unset, .unset, .unset] [(.int (p1 &&& (255 : Int32))), (.int (own_len (p1.toInt8.toInt32)))]))
  refine own_callS X1 hx hZ (y := (⟨"com/example/templum/templum/validation/Utf8LengthPinLaw", "expectedLength", "(I)I"⟩ : MethodName)) (W := 1) (argsL := [(.int (p1 &&& (255 : Int32)))]) (rest := [(.int (own_len (p1.toInt8.toInt32)))]) hown (hw _ (List.mem_of_getElem? (i := 4) rfl)) (hw _ (List.mem_of_getElem? (i := 5) rfl)) (hw _ (List.mem_of_getElem? (i := 6) rfl)) (hw _ (List.mem_of_getElem? (i := 7) rfl)) (by decide) (own_bk (rm_exp l Z a0 hw (p1 &&& (255 : Int32)) h0 n0) hZ (hw _ (List.mem_of_getElem? (i := 7) rfl)) (hw _ (List.mem_of_getElem? (i := 6) rfl)) (by decide) (by decide)) e1 (g := (mkF m 14 #[.val (.int p1), .val (.int p2), .val (.int (p1.toInt8.toInt32)), .val (.int (p1 &&& (255 : Int32))), .unset, .unset, .unset, .unset, .unset] [(.int (p1 &&& (255 : Int32))), (.int (own_len (p1.toInt8.toInt32)))])) rfl (by rw [hml]; rfl) (lenOf pd_1 rfl) rfl (by show 2 * 0 + _ ≤ _; exact Nat.le_of_eq rfl) (hb hby at_14) (by decide) (by decide) (fun v2 T2 h2 L2 X2 e2 q2 => ?_)
  obtain ⟨rfl, M2, s2⟩ := q2
  replace e2 : T2.heap = h0 := e2.trans s2
  have N2 := Fr.app N1 M2
  have hc17 : (own_len (p1.toInt8.toInt32)) = (own_exp (p1 &&& (255 : Int32))) := (own_same p1)
  refine own_go (fun t k => XS.icmpNo X2.here hx rfl (hb hby at_17) rfl (teq hc17).2 k) ?_
  refine own_go (fun t k => XS.iconst X2.here hx rfl (hb hby at_20) k) ?_
  refine own_go (fun t k => XS.goto X2.here hx rfl (pc0 := 21) (pc' := 25) rfl (hb hby at_21) (by decide) (by decide) k) ?_
  refine own_go (fun t k => XS.istore X2.here hx rfl (hb hby at_25) rfl (l' := #[.val (.int p1), .val (.int p2), .val (.int (p1.toInt8.toInt32)), .val (.int (p1 &&& (255 : Int32))), .val (.int (1 : Int32)), .unset, .unset, .unset, .unset]) rfl k) ?_
  show own_Run p e below Φ (T2.setTop (mkF m 27 #[.val (.int p1), .val (.int p2), .val (.int (p1.toInt8.toInt32)), .val (.int (p1 &&& (255 : Int32))), .val (.int (1 : Int32)), .unset, .unset, .unset, .unset] []))
  refine own_go (fun t k => XS.iloadN X2.here hx rfl (hb hby at_27) rfl  k) ?_
  refine own_go (X2.ldcInt hx hown (mvT hZ (hw _ (List.mem_of_getElem? (i := 8) rfl))) (g := (mkF m 28 #[.val (.int p1), .val (.int p2), .val (.int (p1.toInt8.toInt32)), .val (.int (p1 &&& (255 : Int32))), .val (.int (1 : Int32)), .unset, .unset, .unset, .unset] [(.int p2)])) rfl (hb hby at_28)) ?_
  refine own_go (fun t k => XS.iand X2.here hx rfl (hb hby at_30) rfl k) ?_
  refine own_go (X2.ldcInt hx hown (mvT hZ (hw _ (List.mem_of_getElem? (i := 9) rfl))) (g := (mkF m 31 #[.val (.int p1), .val (.int p2), .val (.int (p1.toInt8.toInt32)), .val (.int (p1 &&& (255 : Int32))), .val (.int (1 : Int32)), .unset, .unset, .unset, .unset] [(.int (p2 &&& (2147483647 : Int32)))])) rfl (hb hby at_31)) ?_
  refine own_go (fun t k => Jvm.RoadKit.iremM X2 hx rfl (hb hby at_33) rfl (by decide) k) ?_
  show own_Run p e below Φ (T2.setTop (mkF m 34 #[.val (.int p1), .val (.int p2), .val (.int (p1.toInt8.toInt32)), .val (.int (p1 &&& (255 : Int32))), .val (.int (1 : Int32)), .unset, .unset, .unset, .unset] [(.int ((p2 &&& (2147483647 : Int32)) % (1114112 : Int32)))]))
  refine own_go (fun t k => XS.istore X2.here hx rfl (hb hby at_34) rfl (l' := #[.val (.int p1), .val (.int p2), .val (.int (p1.toInt8.toInt32)), .val (.int (p1 &&& (255 : Int32))), .val (.int (1 : Int32)), .val (.int ((p2 &&& (2147483647 : Int32)) % (1114112 : Int32))), .unset, .unset, .unset]) rfl k) ?_
  show own_Run p e below Φ (T2.setTop (mkF m 36 #[.val (.int p1), .val (.int p2), .val (.int (p1.toInt8.toInt32)), .val (.int (p1 &&& (255 : Int32))), .val (.int (1 : Int32)), .val (.int ((p2 &&& (2147483647 : Int32)) % (1114112 : Int32))), .unset, .unset, .unset] []))
  have hcp := own_cp p2
  generalize ecp : ((p2 &&& (2147483647 : Int32)) % (1114112 : Int32)) = cp at hcp
  have J58_3 : ∀ (cq : Int32), (0 ≤ cq.toInt ∧ cq.toInt < 1114112) → own_Run p e below Φ (T2.setTop (mkF m 58 #[.val (.int p1), .val (.int p2), .val (.int (p1.toInt8.toInt32)), .val (.int (p1 &&& (255 : Int32))), .val (.int (1 : Int32)), .val (.int cq), .unset, .unset, .unset] [])) := by
    intro cq hq
    show own_Run p e below Φ (T2.setTop (mkF m 58 #[.val (.int p1), .val (.int p2), .val (.int (p1.toInt8.toInt32)), .val (.int (p1 &&& (255 : Int32))), .val (.int (1 : Int32)), .val (.int cq), .unset, .unset, .unset] []))
    refine own_go (fun t k => XS.iconst X2.here hx rfl (hb hby at_58) k) ?_
    refine own_newP X2 hx hZ (hw _ (List.mem_of_getElem? (i := 11) rfl)) e2 (g := (mkF m 59 #[.val (.int p1), .val (.int p2), .val (.int (p1.toInt8.toInt32)), .val (.int (p1 &&& (255 : Int32))), .val (.int (1 : Int32)), .val (.int cq), .unset, .unset, .unset] [(.int (4 : Int32))])) rfl (hb hby at_59) rfl (by decide) 4 (by decide) (by decide) (by decide) (by decide) 4 (fun T4 h4 k4 b4 X4 e4 E4 g4 V4 => ?_)
    replace V4 : Arv Z h4 b4 k4 .byte (4 : Int32) [(.int (0 : Int32)), (.int (0 : Int32)), (.int (0 : Int32)), (.int (0 : Int32))] (.int (0 : Int32)) := V4
    refine own_go (fun t k => XS.astore X4.here hx rfl (hb hby at_61) rfl rfl (l' := #[.val (.int p1), .val (.int p2), .val (.int (p1.toInt8.toInt32)), .val (.int (p1 &&& (255 : Int32))), .val (.int (1 : Int32)), .val (.int cq), .val (.ref b4), .unset, .unset]) rfl k) ?_
    refine own_go (fun t k => XS.iload X4.here hx rfl (hb hby at_63) rfl  k) ?_
    refine own_go (fun t k => XS.aload X4.here hx rfl (hb hby at_65) rfl rfl  k) ?_
    show own_Run p e below Φ (T4.setTop (mkF m 67 #[.val (.int p1), .val (.int p2), .val (.int (p1.toInt8.toInt32)), .val (.int (p1 &&& (255 : Int32))), .val (.int (1 : Int32)), .val (.int cq), .val (.ref b4), .unset, .unset] [(.ref b4), (.int cq)]))
    refine own_go (fun t k => XS.iconst X4.here hx rfl (hb hby at_67) k) ?_
    refine own_callS X4 hx hZ (y := (⟨"com/example/templum/templum/validation/Utf8", "encode", "(I[BI)I"⟩ : MethodName)) (W := 0) (argsL := [(.int cq), (.ref b4), (.int (0 : Int32))]) (rest := []) hown (hw _ (List.mem_of_getElem? (i := 12) rfl)) (hw _ (List.mem_of_getElem? (i := 13) rfl)) (hw _ (List.mem_of_getElem? (i := 2) rfl)) (hw _ (List.mem_of_getElem? (i := 14) rfl)) (by decide) (own_bk (rm_enc l Z a0 hw cq b4 k4 h4 n0 V4 (Nat.le_trans Z0 (Nat.le_of_eq g4.symm))) hZ (hw _ (List.mem_of_getElem? (i := 14) rfl)) (hw _ (List.mem_of_getElem? (i := 2) rfl)) (by decide) (by decide)) e4 (g := (mkF m 68 #[.val (.int p1), .val (.int p2), .val (.int (p1.toInt8.toInt32)), .val (.int (p1 &&& (255 : Int32))), .val (.int (1 : Int32)), .val (.int cq), .val (.ref b4), .unset, .unset] [(.int (0 : Int32)), (.ref b4), (.int cq)])) rfl (by rw [hml]; rfl) (lenOf pd_2 rfl) rfl (by show 2 * 0 + _ ≤ _; exact Nat.le_of_eq rfl) (hb hby at_68) (by decide) (by decide) (fun v6 T6 h6 L6 X6 e6 q6 => ?_)
    obtain ⟨rfl, M6, K6, ⟨w1_6, w2_6, w3_6, V6⟩⟩ := q6
    have N6 := Fr.app N2 M6
    refine own_go (fun t k => XS.istore X6.here hx rfl (hb hby at_71) rfl (l' := #[.val (.int p1), .val (.int p2), .val (.int (p1.toInt8.toInt32)), .val (.int (p1 &&& (255 : Int32))), .val (.int (1 : Int32)), .val (.int cq), .val (.ref b4), .val (.int (own_n cq)), .unset]) rfl k) ?_
    refine own_go (fun t k => XS.aload X6.here hx rfl (hb hby at_73) rfl rfl  k) ?_
    refine own_go (fun t k => XS.iconst X6.here hx rfl (hb hby at_75) k) ?_
    show own_Run p e below Φ (T6.setTop (mkF m 76 #[.val (.int p1), .val (.int p2), .val (.int (p1.toInt8.toInt32)), .val (.int (p1 &&& (255 : Int32))), .val (.int (1 : Int32)), .val (.int cq), .val (.ref b4), .val (.int (own_n cq)), .unset] [(.int (0 : Int32)), (.ref b4)]))
    refine own_baload X6 hx hZ e6 V6 (j := (0 : Int32)) (v := (.int (own_b0 cq))) ⟨by decide, by decide⟩ rfl (g := (mkF m 76 #[.val (.int p1), .val (.int p2), .val (.int (p1.toInt8.toInt32)), .val (.int (p1 &&& (255 : Int32))), .val (.int (1 : Int32)), .val (.int cq), .val (.ref b4), .val (.int (own_n cq)), .unset] [(.int (0 : Int32)), (.ref b4)])) rfl rfl (hb hby at_76) ?_
    refine own_callS X6 hx hZ (y := (⟨"com/example/templum/templum/validation/Utf8", "length", "(B)I"⟩ : MethodName)) (W := 0) (argsL := [(.int (own_b0 cq))]) (rest := []) hown (hw _ (List.mem_of_getElem? (i := 0) rfl)) (hw _ (List.mem_of_getElem? (i := 1) rfl)) (hw _ (List.mem_of_getElem? (i := 2) rfl)) (hw _ (List.mem_of_getElem? (i := 3) rfl)) (by decide) (own_bk (rm_len l Z a0 hw (own_b0 cq) h6 n0) hZ (hw _ (List.mem_of_getElem? (i := 3) rfl)) (hw _ (List.mem_of_getElem? (i := 2) rfl)) (by decide) (by decide)) e6 (g := (mkF m 77 #[.val (.int p1), .val (.int p2), .val (.int (p1.toInt8.toInt32)), .val (.int (p1 &&& (255 : Int32))), .val (.int (1 : Int32)), .val (.int cq), .val (.ref b4), .val (.int (own_n cq)), .unset] [(.int (own_b0 cq))])) rfl (by rw [hml]; rfl) (lenOf pd_0 rfl) rfl (by show 2 * 0 + _ ≤ _; exact Nat.le_of_eq rfl) (hb hby at_77) (by decide) (by decide) (fun v7 T7 h7 L7 X7 e7 q7 => ?_)
    obtain ⟨rfl, M7, s7⟩ := q7
    replace e7 : T7.heap = h6 := e7.trans s7
    have N7 := Fr.app N6 M7
    refine own_go (fun t k => XS.iload X7.here hx rfl (hb hby at_80) rfl  k) ?_
    have hc82 : (own_len (own_b0 cq)) = (own_n cq) := (own_enc hq.1 hq.2)
    refine own_go (fun t k => XS.icmpNo X7.here hx rfl (hb hby at_82) rfl (teq hc82).2 k) ?_
    refine own_go (fun t k => XS.iconst X7.here hx rfl (hb hby at_85) k) ?_
    show own_Run p e below Φ (T7.setTop (mkF m 86 #[.val (.int p1), .val (.int p2), .val (.int (p1.toInt8.toInt32)), .val (.int (p1 &&& (255 : Int32))), .val (.int (1 : Int32)), .val (.int cq), .val (.ref b4), .val (.int (own_n cq)), .unset] [(.int (1 : Int32))]))
    refine own_go (fun t k => XS.goto X7.here hx rfl (pc0 := 86) (pc' := 90) rfl (hb hby at_86) (by decide) (by decide) k) ?_
    refine own_go (fun t k => XS.istore X7.here hx rfl (hb hby at_90) rfl (l' := #[.val (.int p1), .val (.int p2), .val (.int (p1.toInt8.toInt32)), .val (.int (p1 &&& (255 : Int32))), .val (.int (1 : Int32)), .val (.int cq), .val (.ref b4), .val (.int (own_n cq)), .val (.int (1 : Int32))]) rfl k) ?_
    refine own_go (fun t k => XS.iload X7.here hx rfl (hb hby at_92) rfl  k) ?_
    refine own_go (fun t k => XS.ifNo X7.here hx rfl (hb hby at_94) rfl ((if0 _ _).trans (feq (by decide : ¬ ((1 : Int32) = (0 : Int32)))).1) k) ?_
    refine own_go (fun t k => XS.iload X7.here hx rfl (hb hby at_97) rfl  k) ?_
    show own_Run p e below Φ (T7.setTop (mkF m 99 #[.val (.int p1), .val (.int p2), .val (.int (p1.toInt8.toInt32)), .val (.int (p1 &&& (255 : Int32))), .val (.int (1 : Int32)), .val (.int cq), .val (.ref b4), .val (.int (own_n cq)), .val (.int (1 : Int32))] [(.int (1 : Int32))]))
    refine own_go (fun t k => XS.ifNo X7.here hx rfl (hb hby at_99) rfl ((if0 _ _).trans (feq (by decide : ¬ ((1 : Int32) = (0 : Int32)))).1) k) ?_
    refine own_go (fun t k => XS.iconst X7.here hx rfl (hb hby at_102) k) ?_
    refine own_go (fun t k => XS.goto X7.here hx rfl (pc0 := 103) (pc' := 107) rfl (hb hby at_103) (by decide) (by decide) k) ?_
    subst hΦ
    exact own_retN X7 hx (t := .boolean) Bd.returns (by simp) hlk (hb hby at_107) e7 ⟨rfl, N7⟩ (by decide) (by decide)
  show own_Run p e below Φ (T2.setTop (mkF m 36 #[.val (.int p1), .val (.int p2), .val (.int (p1.toInt8.toInt32)), .val (.int (p1 &&& (255 : Int32))), .val (.int (1 : Int32)), .val (.int cp), .unset, .unset, .unset] []))
  refine own_go (fun t k => XS.iload X2.here hx rfl (hb hby at_36) rfl  k) ?_
  refine own_go (X2.ldcInt hx hown (mvT hZ (hw _ (List.mem_of_getElem? (i := 10) rfl))) (g := (mkF m 38 #[.val (.int p1), .val (.int p2), .val (.int (p1.toInt8.toInt32)), .val (.int (p1 &&& (255 : Int32))), .val (.int (1 : Int32)), .val (.int cp), .unset, .unset, .unset] [(.int cp)])) rfl (hb hby at_38)) ?_
  show own_Run p e below Φ (T2.setTop (mkF m 40 #[.val (.int p1), .val (.int p2), .val (.int (p1.toInt8.toInt32)), .val (.int (p1 &&& (255 : Int32))), .val (.int (1 : Int32)), .val (.int cp), .unset, .unset, .unset] [(.int (55296 : Int32)), (.int cp)]))
  by_cases hc40 : cp < (55296 : Int32)
  · refine own_go (fun t k => XS.icmpYes X2.here hx rfl (pc0 := 40) (pc' := 58) rfl (hb hby at_40) rfl (tlt hc40).1 (by decide) (by decide) k) ?_
    exact J58_3 cp hcp
  · refine own_go (fun t k => XS.icmpNo X2.here hx rfl (hb hby at_40) rfl (flt hc40).1 k) ?_
    refine own_go (fun t k => XS.iload X2.here hx rfl (hb hby at_43) rfl  k) ?_
    refine own_go (X2.ldcInt hx hown (mvT hZ (hw _ (List.mem_of_getElem? (i := 15) rfl))) (g := (mkF m 45 #[.val (.int p1), .val (.int p2), .val (.int (p1.toInt8.toInt32)), .val (.int (p1 &&& (255 : Int32))), .val (.int (1 : Int32)), .val (.int cp), .unset, .unset, .unset] [(.int cp)])) rfl (hb hby at_45)) ?_
    by_cases hc47 : (57343 : Int32) < cp
    · refine own_go (fun t k => XS.icmpYes X2.here hx rfl (pc0 := 47) (pc' := 58) rfl (hb hby at_47) rfl (tlt hc47).2.2.1 (by decide) (by decide) k) ?_
      exact J58_3 cp hcp
    · refine own_go (fun t k => XS.icmpNo X2.here hx rfl (hb hby at_47) rfl (flt hc47).2.2.1 k) ?_
      refine own_go (fun t k => XS.iload X2.here hx rfl (hb hby at_50) rfl  k) ?_
      show own_Run p e below Φ (T2.setTop (mkF m 52 #[.val (.int p1), .val (.int p2), .val (.int (p1.toInt8.toInt32)), .val (.int (p1 &&& (255 : Int32))), .val (.int (1 : Int32)), .val (.int cp), .unset, .unset, .unset] [(.int cp)]))
      refine own_go (fun t k => XS.sipush X2.here hx rfl (hb hby at_52) k) ?_
      refine own_go (fun t k => XS.ixor X2.here hx rfl (hb hby at_55) rfl k) ?_
      refine own_go (fun t k => XS.istore X2.here hx rfl (hb hby at_56) rfl (l' := #[.val (.int p1), .val (.int p2), .val (.int (p1.toInt8.toInt32)), .val (.int (p1 &&& (255 : Int32))), .val (.int (1 : Int32)), .val (.int (cp ^^^ (2048 : Int32))), .unset, .unset, .unset]) rfl k) ?_
      exact J58_3 (cp ^^^ (2048 : Int32)) (by obtain ⟨q1, q2⟩ := own_xor (x := cp) (y := 2048) (by omega) (by rw [Int32.lt_iff_toInt_lt] at hc47; simp only [Int32.reduceToInt] at hc47; omega) (by decide) (by decide); exact ⟨q1, by omega⟩)
set_option maxRecDepth 65536 in
set_option maxHeartbeats 40000000 in
theorem comes_1 {Post : Tables → Env → Array Value → State → Outcome → State → Prop} (hpost : ∀ tb e args s v u, (limb_1_1.after args s (.returned v) u = true ∧ limb_1_2.after args s (.returned v) u = true ∧ True) → FrameEnd s (.returned v) u (Jvm.fieldLocs frame_1_writes args s ++ Jvm.arrayLocs frame_1_arrays args s ++ Jvm.staticLocs frame_1_statics s) 16 128 → Post tb e args s (.returned v) u) :
    ArmFor flags0 classFile x code maxLocals ret World_1 tables_1 room_1 Calls_1 rest_1 Pre_1 Post := by
  intro l hfl _ _ p e ha hc hk s m args below hf hA hF happ hP
  obtain ⟨hcalls, hrest, hpre⟩ := hP
  obtain ⟨-, -, -, hnamed, -, -, -, hat⟩ := (Spec.applies_iff hf).mp happ
  obtain ⟨hg, hn⟩ := and_e (Cond.before_iff.mp (show (Jvm.Cond.and given_1 narrow_1).before args s = true from hpre))
  obtain ⟨hcount, hg⟩ := and_e hg
  obtain ⟨ha0, hg⟩ := and_e hg
  have ha1 := hg
  obtain ⟨w0, w1, rfl⟩ : ∃ w0 w1 : Value, args = #[w0, w1] := by
    have hs : args.size = 2 := by simpa [Cond.value, given_1] using hcount
    obtain ⟨L⟩ := args
    match L, hs with
    | [w0, w1], _ => exact ⟨w0, w1, rfl⟩
  have hw := fun d (hd : d ∈ tables_1) => atoms_spec (ws := Jvm.Cond.code x code maxLocals ret :: tables_1) hat d (List.mem_cons_of_mem _ hd)
  have hfit : Fit s := fun {y c} hc i hi => by
    obtain ⟨ha, rfl⟩ := Array.getElem?_eq_some_iff.mp hc
    have q := List.all_eq_true.mp ((Array.all_eq_true_iff_forall_mem.mp hF) _ (Array.getElem_mem ha)) i (List.mem_range.mpr hi)
    simpa [Array.getElem?_eq_getElem hi] using q
  obtain ⟨i0, ei0⟩ := is_v ha0
  obtain rfl : w0 = (.int i0) := Option.some.inj ei0
  obtain ⟨i1, ei1⟩ := is_v ha1
  obtain rfl : w1 = (.int i1) := Option.some.inj ei1
  obtain ⟨n, o, h1, h2, h3, _, L, rfl, ⟨rfl, N⟩, hq⟩ := rm_law l s _ hw i0 i1  s.heap s.heap.size (Nat.le_refl _) tables_1 p e ha hc hk s m _ below hf ((Spec.applies_iff_loose hf).mp happ).1 ⟨rfl, State.Warmed39.refl s, rfl⟩ trivial
  refine ⟨n, _, h1, h2, h3, hpost _ _ _ _ _ _ ⟨Cond.after_iff.mpr rfl, Cond.after_iff.mpr (eq_i res_at (Term.int_eval (1)) rfl), trivial⟩ ⟨hq.1, hq.2.1, (hq.2.2.sift fun y hy => Or.inr (N y hy)).mono (by decide) (by decide)⟩⟩
theorem main_1_1 : Claimed_1_1 := comes_1 fun _ _ _ _ _ _ h hF => ⟨h.1, hF⟩
theorem main_1_2 : Claimed_1_2 := comes_1 fun _ _ _ _ _ _ h hF => ⟨h.2.1, hF⟩
end Jvm.Pilot.@@N@@
namespace Jvm.Pilot.@@N@@
open Jvm Jvm.ClassFile Sem Op Lib Jvm.Free Jvm.Stand Jvm.Pilot.@@N@@.Jvm.D
/-! MADE BY PROGRAM (witnessworld.py) out of the Statement's table words and the real class files: 9 classes; the members and pool entries that the words name. The judged class is class 1, her method 2. -/
namespace start1
open Jvm.ClassFile
def u (s : String) : CpInfo := .utf8 (stringToUtf16 s)
/-- a pool by its gaps: so many unusable entries, then the entry; so many at the end -/
def gap : Nat → List CpInfo → List CpInfo
  | 0, r => r
  | n + 1, r => .unusable :: gap n r
def poolList (es : List (Nat × CpInfo)) (last : Nat) : List CpInfo := es.foldr (fun e r => gap e.1 (e.2 :: r)) (gap last [])
def pool (es : List (Nat × CpInfo)) (last : Nat) : Array CpInfo := ⟨poolList es last⟩
def fileOf (pool : Array CpInfo) (this : Nat) (attrs : Array Attribute := #[]) (ms : Array MethodInfo := #[]) (fl : Nat := 33) (sup : Nat := 0) (ifs : Array Nat := #[]) (fds : Array FieldInfo := #[]) : ClassFile where
  minorVersion := 0
  majorVersion := 65
  constantPool := pool
  accessFlags := fl
  thisClass := this
  superClass := sup
  interfaces := ifs
  fields := fds
  methods := ms
  attributes := attrs
def plain (name : String) (sup : Option ClassId) : Class where
  name := name
  kind := .ordinary
  loader := none
  accessFlags := 33
  super := sup
  interfaces := #[]
  cf := none
  fields := #[]
  methods := #[]
  instanceTypes := #[]
  staticTypes := #[]
  resolved := #[]
  callSites := []
  init := .initialized
  statics := none
  mirror := none

def pool0 : Array CpInfo := pool [(5, u "<init>"), (0, u "()V"), (1, .class_ 10), (1, u "java/lang/Object")] 113

def k0m0 : Method := { name := "<init>", desc := "()V", sig := { parameters := [], returnType := none }, accessFlags := 1, code := none }
/-- java/lang/Object -/
def k0 : Class := { plain "java/lang/Object" none with
  accessFlags := 33
  interfaces := #[]
  cf := some (fileOf pool0 8 #[] #[{ accessFlags := 1, nameIndex := 5, descriptorIndex := 6, attributes := #[] }] 33 0 #[] #[])
  fields := #[]
  methods := #[k0m0]
  instanceTypes := #[]
  staticTypes := #[]
  resolved := Array.replicate 124 none
  statics := none }

def pool1 : Array CpInfo := pool [(2, .class_ 4), (1, u "java/lang/Object"), (0, u "<init>"), (0, u "()V"), (0, .methodref 8 9), (0, .class_ 10), (0, .nameAndType 11 12), (0, u "com/example/templum/templum/validation/Utf8"), (0, u "length"), (0, u "(B)I"), (0, .methodref 14 15), (0, .class_ 16), (0, .nameAndType 17 18), (0, u "com/example/templum/templum/validation/Utf8LengthPinLaw"), (0, u "expectedLength"), (0, u "(I)I"), (0, .integer 2147483647), (0, .integer 1114112), (0, .integer 55296), (0, .integer 57343), (0, .methodref 8 24), (0, .nameAndType 25 26), (0, u "encode"), (0, u "(I[BI)I"), (3, u "law"), (0, u "(II)Z")] 4

def k1m0 : Method := { name := "<init>", desc := "()V", sig := { parameters := [], returnType := none }, accessFlags := 2, code := none }
def k1c1 : Code := { maxStack := 2, maxLocals := 2, code := method_2_code, exceptionTable := #[], attributes := #[] }
def k1m1 : Method := { name := "expectedLength", desc := "(I)I", sig := { parameters := [.int], returnType := some .int }, accessFlags := 10, code := some k1c1 }
def k1c2 : Code := { maxStack := 3, maxLocals := 9, code := code, exceptionTable := #[], attributes := #[] }
def k1m2 : Method := { name := "law", desc := "(II)Z", sig := { parameters := [.int, .int], returnType := some .boolean }, accessFlags := 9, code := some k1c2 }
/-- com/example/templum/templum/validation/Utf8LengthPinLaw -/
def k1 : Class := { plain "com/example/templum/templum/validation/Utf8LengthPinLaw" (some 0) with
  accessFlags := 49
  interfaces := #[]
  cf := some (fileOf pool1 14 #[] #[{ accessFlags := 2, nameIndex := 5, descriptorIndex := 6, attributes := #[] }, { accessFlags := 10, nameIndex := 17, descriptorIndex := 18, attributes := #[] }, { accessFlags := 9, nameIndex := 30, descriptorIndex := 31, attributes := #[] }] 49 2 #[] #[])
  fields := #[]
  methods := #[k1m0, k1m1, k1m2]
  instanceTypes := #[]
  staticTypes := #[]
  resolved := Array.replicate 36 none
  statics := none }

def pool2 : Array CpInfo := pool [(2, .class_ 4), (1, u "java/lang/Object"), (0, u "<init>"), (0, u "()V"), (1, .class_ 10), (1, u "com/example/templum/templum/validation/Utf8"), (0, u "LEAST_OF_LENGTH"), (0, u "[I"), (5, .integer 65536), (2, u "length"), (0, u "(B)I"), (3, u "encode"), (0, u "(I[BI)I")] 3

def k2m0 : Method := { name := "<init>", desc := "()V", sig := { parameters := [], returnType := none }, accessFlags := 2, code := none }
def k2c1 : Code := { maxStack := 2, maxLocals := 2, code := prog_118_method_2_code, exceptionTable := #[], attributes := #[] }
def k2m1 : Method := { name := "length", desc := "(B)I", sig := { parameters := [.byte], returnType := some .int }, accessFlags := 8, code := some k2c1 }
def k2c2 : Code := { maxStack := 5, maxLocals := 4, code := prog_118_method_4_code, exceptionTable := #[], attributes := #[] }
def k2m2 : Method := { name := "encode", desc := "(I[BI)I", sig := { parameters := [.int, (.array .byte), .int], returnType := some .int }, accessFlags := 8, code := some k2c2 }
/-- com/example/templum/templum/validation/Utf8 -/
def k2 : Class := { plain "com/example/templum/templum/validation/Utf8" (some 0) with
  accessFlags := 48
  interfaces := #[]
  cf := some (fileOf pool2 8 #[] #[{ accessFlags := 2, nameIndex := 5, descriptorIndex := 6, attributes := #[] }, { accessFlags := 8, nameIndex := 21, descriptorIndex := 22, attributes := #[] }, { accessFlags := 8, nameIndex := 26, descriptorIndex := 27, attributes := #[] }] 48 2 #[] #[{ accessFlags := 26, nameIndex := 11, descriptorIndex := 12, attributes := #[] }])
  fields := #[{ name := "LEAST_OF_LENGTH", type := (.array .int), accessFlags := 26, slot := 0, constantValue := 0 }]
  methods := #[k2m0, k2m1, k2m2]
  instanceTypes := #[]
  staticTypes := #[(.array .int)]
  resolved := Array.replicate 31 none
  statics := none }

def pool3 : Array CpInfo := pool [(1, u "java/lang/Cloneable"), (0, .class_ 1), (0, u "java/lang/Object"), (0, .class_ 3)] 3

/-- java/lang/Cloneable -/
def k3 : Class := { plain "java/lang/Cloneable" (some 0) with
  accessFlags := 1537
  interfaces := #[]
  cf := some (fileOf pool3 2 #[] #[] 1537 4 #[] #[])
  fields := #[]
  methods := #[]
  instanceTypes := #[]
  staticTypes := #[]
  resolved := Array.replicate 8 none
  statics := none }

def pool4 : Array CpInfo := pool [(1, u "java/io/Serializable"), (0, .class_ 1), (0, u "java/lang/Object"), (0, .class_ 3)] 3

/-- java/io/Serializable -/
def k4 : Class := { plain "java/io/Serializable" (some 0) with
  accessFlags := 1537
  interfaces := #[]
  cf := some (fileOf pool4 2 #[] #[] 1537 4 #[] #[])
  fields := #[]
  methods := #[]
  instanceTypes := #[]
  staticTypes := #[]
  resolved := Array.replicate 8 none
  statics := none }

/-- the primitive byte -/
def k5 : Class := { plain "byte" none with kind := .primitive 'B', accessFlags := 0x411 }
/-- [B -/
def k6 : Class := { plain "[B" (some 0) with kind := .array 5 .byte, interfaces := #[3, 4], accessFlags := 1041 }

/-- the primitive int -/
def k7 : Class := { plain "int" none with kind := .primitive 'I', accessFlags := 0x411 }
/-- [I -/
def k8 : Class := { plain "[I" (some 0) with kind := .array 7 .int, interfaces := #[3, 4], accessFlags := 1041 }

def heap : Heap := #[]
def classes : Array Class := #[k0, k1, k2, k3, k4, k5, k6, k7, k8]
def interned : List (Array UInt16 × Addr) := []
def slotsUsed : Nat := 0
def theMethod : MethodId := ⟨1, 2⟩
def args0 : Array Value := #[.int 5, .int 7]
def aboutOver (below : List Frame) : State where
  vm := { classes := classes, interned := interned.toArray }
  heap := heap
  slotsUsed := slotsUsed
  threads := #[{ frames := .invoking theMethod args0 :: below }]
def below0 : List Frame := [.native { method := ⟨0, 0⟩, args := #[] }]
def about1 : State := aboutOver below0
def p0 : Program := .bare "" "" ""
def e0 : Env := launch0.env 0 0 0
theorem w_frames : about1.frames = Frame.invoking theMethod args0 :: below0 := rfl
set_option maxRecDepth 65536 in
theorem w_args : argsFit about1.vm theMethod args0 = true := by decide +kernel
set_option maxRecDepth 65536 in
theorem w_heap : heapFits about1 = true := by decide +kernel
set_option maxRecDepth 65536 in
theorem w_runnable : about1.curStatus? = some .runnable := by decide +kernel
set_option maxRecDepth 65536 in
theorem w_alone : about1.alone = true := by decide +kernel
set_option maxRecDepth 65536 in
theorem w_named : about1.methodNamed? x = some theMethod := by decide +kernel
set_option maxRecDepth 65536 in
theorem w_hears : about1.hears theMethod below0 = true := by decide +kernel
set_option maxRecDepth 65536 in
theorem w_ripe : about1.ripe theMethod args0 below0 = true := by decide +kernel
theorem w_running : about1.status = .running := rfl
set_option maxRecDepth 65536 in
theorem w_room : about1.hasRoom e0.platform room_1 = true :=
  launch0.hasRoom_least _ room_1 (by decide +kernel) (by decide +kernel) (by decide +kernel) (by decide +kernel) (by decide +kernel) (by decide +kernel)
theorem allAtoms_all (ts : List Jvm.Cond) (a : Array Jvm.Value) (st : Jvm.State) : (allAtoms ts).before a st = ts.all (fun c => c.before a st) := by
  induction ts with
  | nil => rfl
  | cons c t ih =>
    show (Jvm.Cond.and c (allAtoms t)).before a st = _
    rw [Jvm.Cond.before_and, ih, List.all_cons]
def words1 : List Jvm.Cond := Jvm.Cond.code x code maxLocals ret :: tables_1
/-- a 'code' word, met by the world's own term for the bytes: nothing is compared byte by byte -/
theorem code_word {y : MethodName} {bytes : ByteArray} {mx : Nat} {rt : Option FieldType} {a : Array Value} {s : State} {m : MethodId} {meth : Method} {c : Code} (h1 : s.methodNamed? y = some m) (h2 : s.vm.method? m = some meth) (h3 : meth.code = some c) (h4 : c.code = bytes)
    (h5 : (c.maxLocals == mx && c.exceptionTable.isEmpty && decide (c.maxStack ≤ mostOperands) && decide (meth.sig.returnType = rt) && !meth.locks && decide (parseMethodDescriptor y.desc = some meth.sig)) = true) : (Jvm.Cond.code y bytes mx rt).before a s = true := by
  simp only [Bool.and_eq_true, beq_iff_eq, Bool.not_eq_true', decide_eq_true_eq] at h5
  obtain ⟨⟨⟨⟨⟨g1, g2⟩, g3⟩, g4⟩, g5⟩, g6⟩ := h5
  simp [Cond.before, Cond.holds, Cond.value, h1, h2, h3, h4, g1, g2, g3, g4, g5, g6]
def isCode : Jvm.Cond → Bool
  | .code _ _ _ _ => true
  | _ => false
theorem all_split {L : List Jvm.Cond} {P : Jvm.Cond → Bool} (h1 : L.all (fun c => isCode c || P c) = true) (h2 : ∀ c ∈ L.filter isCode, P c = true) : L.all P = true := by
  refine List.all_eq_true.mpr fun c hc => ?_
  have h := List.all_eq_true.mp h1 c hc
  rcases Bool.eq_false_or_eq_true (isCode c) with hi | hi
  · exact h2 c (List.mem_filter.mpr ⟨hc, hi⟩)
  · simpa [hi] using h
set_option maxRecDepth 65536 in
theorem w_c0 : (Jvm.Cond.code x code maxLocals ret).before args0 about1 = true := code_word (m := ⟨1, 2⟩) (meth := k1m2) (c := k1c2) (by decide +kernel) rfl rfl rfl (by decide +kernel)
set_option maxRecDepth 65536 in
theorem w_c1 : (Jvm.Cond.code ({ cls := "com/example/templum/templum/validation/Utf8", name := "length", desc := "(B)I" } : Jvm.MethodName) prog_118_method_2_code (2 : Nat) (Option.some Jvm.ClassFile.FieldType.int)).before args0 about1 = true := code_word (m := ⟨2, 1⟩) (meth := k2m1) (c := k2c1) (by decide +kernel) rfl rfl rfl (by decide +kernel)
set_option maxRecDepth 65536 in
theorem w_c2 : (Jvm.Cond.code ({ cls := "com/example/templum/templum/validation/Utf8LengthPinLaw", name := "expectedLength", desc := "(I)I" } : Jvm.MethodName) method_2_code (2 : Nat) (Option.some Jvm.ClassFile.FieldType.int)).before args0 about1 = true := code_word (m := ⟨1, 1⟩) (meth := k1m1) (c := k1c1) (by decide +kernel) rfl rfl rfl (by decide +kernel)
set_option maxRecDepth 65536 in
theorem w_c3 : (Jvm.Cond.code ({ cls := "com/example/templum/templum/validation/Utf8", name := "encode", desc := "(I[BI)I" } : Jvm.MethodName) prog_118_method_4_code (4 : Nat) (Option.some Jvm.ClassFile.FieldType.int)).before args0 about1 = true := code_word (m := ⟨2, 2⟩) (meth := k2m2) (c := k2c2) (by decide +kernel) rfl rfl rfl (by decide +kernel)
def codes1 : List Jvm.Cond := [Jvm.Cond.code x code maxLocals ret, Jvm.Cond.code ({ cls := "com/example/templum/templum/validation/Utf8", name := "length", desc := "(B)I" } : Jvm.MethodName) prog_118_method_2_code (2 : Nat) (Option.some Jvm.ClassFile.FieldType.int), Jvm.Cond.code ({ cls := "com/example/templum/templum/validation/Utf8LengthPinLaw", name := "expectedLength", desc := "(I)I" } : Jvm.MethodName) method_2_code (2 : Nat) (Option.some Jvm.ClassFile.FieldType.int), Jvm.Cond.code ({ cls := "com/example/templum/templum/validation/Utf8", name := "encode", desc := "(I[BI)I" } : Jvm.MethodName) prog_118_method_4_code (4 : Nat) (Option.some Jvm.ClassFile.FieldType.int)]
set_option maxRecDepth 65536 in
theorem codes_eq : words1.filter isCode = codes1 := rfl
theorem w_codes : ∀ c ∈ words1.filter isCode, c.before args0 about1 = true := by
  rw [codes_eq]
  intro c hc
  simp only [codes1, List.mem_cons, List.not_mem_nil, or_false] at hc
  rcases hc with rfl | rfl | rfl | rfl
  · exact w_c0
  · exact w_c1
  · exact w_c2
  · exact w_c3
set_option maxRecDepth 65536 in
theorem w_t1 : words1.all (fun c => isCode c || c.before args0 about1) = true := by decide +kernel
theorem w_tables : (allAtoms (Jvm.Cond.code x code maxLocals ret :: tables_1)).before args0 about1 = true := by
  rw [allAtoms_all]
  show words1.all (fun c => c.before args0 about1) = true
  refine all_split ?_ w_codes
  rw [w_t1]
set_option maxRecDepth 65536 in
theorem w_case : (Jvm.Cond.and given_1 narrow_1).before args0 about1 = true := by decide +kernel
theorem w_applies : (headSpec (Jvm.Cond.code x code maxLocals ret :: tables_1) room_1).applies x e0.platform about1 = true :=
  (Spec.applies_iff w_frames).mpr ⟨w_running, w_runnable, w_alone, w_named, w_hears, w_ripe, w_room, w_tables⟩
theorem atStart : AtStart classFile x code maxLocals ret World_1 tables_1 room_1 Calls_1 rest_1 Pre_1 launch0 p0 e0 about1 theMethod args0 below0 :=
  ⟨lists_1, trivial, launch0.admits_env _ _ _, launch0.least_env, fairChoices_fair.cas, fairChoices_fair.clock, w_frames, w_args, w_heap, w_applies, trivial, trivial, w_case⟩
end start1
theorem witness_1 : WitnessClaimed_1 := ⟨start1.p0, start1.e0, start1.about1, start1.theMethod, start1.args0, start1.below0, start1.atStart⟩
end Jvm.Pilot.@@N@@
