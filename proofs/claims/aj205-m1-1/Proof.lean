import JvmDerived
import JvmDerived.Pilot.@@N@@Statement
import JvmDerived.Pilot.@@N@@Code
set_option linter.unusedVariables false
set_option linter.unusedSimpArgs false
set_option maxHeartbeats 40000000
namespace Jvm.RoadKit
open Sem ClassFile Op Lib Jvm.Stand Jvm.Free Jvm.LawKit
section New
variable {p : Program} {l : Launch} {e : Env} {R : Room} {s : State} {m : MethodId} {args : Array Value} {below : List Frame} {meth : Method} {c : Code} {T : State} {locs : List Loc} {cells slots : Nat}
theorem retI (X : Stand p l e R s m args below meth c T locs cells slots) (hx : p.tables.exec = Jvm.exec) {pc : Nat} {Ls : Array Slot} {z : Int32} {rest : List Value} (hret : meth.sig.returnType = some .int) (hd : decode c.code pc = .ok (.ireturn, 1)) {fs : List Frame}
    (hl : ∀ (f : JFrame) (acts : List Action), f.method = m → f.locked = none → f.entered = [] → (doReturn e (T.setTop f) acts (some (.int z))).1 = T.setFrames fs) : Steps p.tables e below (T.setTop (mkF m pc Ls (.int z :: rest))) (T.setFrames fs) := by
  have hm' : T.vm.method? m = some meth := X.method'
  have hn : narrow .int (.int z) = .int z := rfl
  show Steps p.tables e below (T.setTop { method := m, pc := pc, locals := Ls, stack := _ :: rest, locked := none }) _
  jvm_step X.here [X.here.top, hx, hd, hm', hret, hn]
  first | (intro acts; rw [hl _ acts rfl rfl rfl]) | rw [hl _ _ rfl rfl rfl]
  exact Steps.refl _
end New
end Jvm.RoadKit
namespace Jvm.Pilot.@@N@@
open Jvm Jvm.ClassFile Sem Op Lib Jvm.Free Jvm.Stand Jvm.LawKit Jvm.RoadKit Bundle Jvm.Pilot.@@N@@.Jvm.D
/-! a run that ends well: what this text is made of -/
def own_Run (p : Program) (e : Env) (below : List Frame) (Φ : State → Prop) (S : State) : Prop := ∃ t, Steps p.tables e below S t ∧ Φ t
def own_Fin (s : State) (below : List Frame) (C D : Nat) (Q : Option Value → Heap → List Loc → Prop) (t : State) : Prop :=
  t.status = .running ∧ ∃ v L, Ended t below (.returned v) ∧ Q v t.heap L ∧ FrameEnd s (.returned v) t L C D
def own_Met (l : Launch) (Z : State) (y : MethodName) (bytes : ByteArray) (maxL : Nat) (ret : Option FieldType) (rm : Room) (as : Array Value) (h : Heap) (Q : Option Value → Heap → List Loc → Prop) : Prop :=
  ∀ ws : List Jvm.Cond, MetFree l y (head1 (Jvm.Cond.code y bytes maxL ret :: ws) rm) (fun a U => a = as ∧ Z.Warmed39 U.vm ∧ U.heap = h) (fun _ _ _ _ _ => True) (fun _ U o U' => ∃ v L, o = .returned v ∧ Q v U'.heap L ∧ FrameEnd U o U' L rm.cells rm.slots)
section OwnRun
variable {p : Program} {l : Launch} {e : Env} {R : Room} {s : State} {m : MethodId} {args : Array Value} {below : List Frame} {meth : Method} {c : Code} {T : State} {locs : List Loc} {cells slots : Nat} {Φ : State → Prop} {S S' : State} {Z : State} {a0 : Array Value} {h : Heap}
theorem own_go (st : ∀ t, Steps p.tables e below S' t → Steps p.tables e below S t) (r : own_Run p e below Φ S') : own_Run p e below Φ S := r.elim fun t q => ⟨t, st t q.1, q.2⟩
theorem own_via (st : Steps p.tables e below S S') (r : own_Run p e below Φ S') : own_Run p e below Φ S := r.elim fun t q => ⟨t, st.trans q.1, q.2⟩
theorem own_cast {g g' : JFrame} (q : g = g') (r : own_Run p e below Φ (T.setTop g')) : own_Run p e below Φ (T.setTop g) := q ▸ r
theorem own_body {C D : Nat} {Q : Option Value → Heap → List Loc → Prop} (r : own_Run p e below (own_Fin s below C D Q) S) :
    ∃ s₂ o, Steps p.tables e below S s₂ ∧ s₂.status = .running ∧ Ended s₂ below o ∧ ∃ v L, o = .returned v ∧ Q v s₂.heap L ∧ FrameEnd s o s₂ L C D := by
  obtain ⟨t, q1, q2, v, L, q3, q4, q5⟩ := r
  exact ⟨t, _, q1, q2, q3, v, L, rfl, q4, q5⟩
variable {C D : Nat} {Q : Option Value → Heap → List Loc → Prop}
theorem own_retI (X : Stand p l e R s m args below meth c T locs cells slots) (hx : p.tables.exec = Jvm.exec) (hret : meth.sig.returnType = some .int) (hlk : meth.locks = false) {pc : Nat} {Ls : Array Slot} {z : Int32} {rest : List Value} (hd : decode c.code pc = .ok (.ireturn, 1)) (eT : T.heap = h) (hq : Q (some (.int z)) h locs) (hc : cells ≤ C) (hs : slots ≤ D) :
    own_Run p e below (own_Fin s below C D Q) (T.setTop (mkF m pc Ls (.int z :: rest))) := by
  obtain ⟨fs, hr, hrun, hended, hW, hsame⟩ := X.leave (v := some (.int z)) (fun q => by rw [hret] at q; cases q) hlk
  exact ⟨_, retI X hx hret hd hr, hrun, _, _, hended, by show Q _ T.heap _; rw [eT]; exact hq, ⟨_, rfl⟩, hW, hsame.mono hc hs⟩
theorem own_retN (X : Stand p l e R s m args below meth c T locs cells slots) (hx : p.tables.exec = Jvm.exec) {t : FieldType} (hret : meth.sig.returnType = some t) (ht : t = .boolean ∨ t = .byte ∨ t = .char ∨ t = .short) (hlk : meth.locks = false) {pc : Nat} {Ls : Array Slot} {z : Int32} {rest : List Value} (hd : decode c.code pc = .ok (.ireturn, 1)) (eT : T.heap = h) (hq : Q (some (.int (nar t z))) h locs) (hc : cells ≤ C) (hs : slots ≤ D) :
    own_Run p e below (own_Fin s below C D Q) (T.setTop (mkF m pc Ls (.int z :: rest))) := by
  obtain ⟨fs, hr, hrun, hended, hW, hsame⟩ := X.leave (v := some (.int (nar t z))) (fun q => by rw [hret] at q; cases q) hlk
  exact ⟨_, retN X hx hret ht hd hr, hrun, _, _, hended, by show Q _ T.heap _; rw [eT]; exact hq, ⟨_, rfl⟩, hW, hsame.mono hc hs⟩
theorem own_retV (X : Stand p l e R s m args below meth c T locs cells slots) (hx : p.tables.exec = Jvm.exec) (hret : meth.sig.returnType = none) (hlk : meth.locks = false) {pc : Nat} {Ls : Array Slot} (hd : decode c.code pc = .ok (.return_, 1)) (eT : T.heap = h) (hq : Q none h locs) (hc : cells ≤ C) (hs : slots ≤ D) :
    own_Run p e below (own_Fin s below C D Q) (T.setTop (mkF m pc Ls [])) := by
  obtain ⟨fs, hr, hrun, hended, hW, hsame⟩ := X.leave (v := none) (fun _ => rfl) hlk
  exact ⟨_, X.returnOut hx hret hd hr, hrun, _, _, hended, by show Q _ T.heap _; rw [eT]; exact hq, ⟨_, rfl⟩, hW, hsame.mono hc hs⟩
theorem own_retO (X : Stand p l e R s m args below meth c T locs cells slots) (hx : p.tables.exec = Jvm.exec) {t : FieldType} {i : Instr} {w : Value} (hret : meth.sig.returnType = some t) (hn : narrow t w = w)
    (hi : (i = .ireturn ∧ (t = .int ∨ t = .boolean ∨ t = .byte ∨ t = .char ∨ t = .short) ∧ ∃ z, w = .int z) ∨ (i = .lreturn ∧ t = .long ∧ ∃ z, w = .long z) ∨ (i = .dreturn ∧ t = .double ∧ ∃ z, w = .double z) ∨ (i = .freturn ∧ t = .float ∧ ∃ z, w = .float z) ∨ (i = .areturn ∧ t.isReference = true ∧ w.isRef = true))
    (hlk : meth.locks = false) {pc : Nat} {Ls : Array Slot} {rest : List Value} (hd : decode c.code pc = .ok (i, 1)) (eT : T.heap = h) (hq : Q (some w) h locs) (hc : cells ≤ C) (hs : slots ≤ D) :
    own_Run p e below (own_Fin s below C D Q) (T.setTop (mkF m pc Ls (w :: rest))) := by
  obtain ⟨fs, hr, hrun, hended, hW, hsame⟩ := X.leave (v := some w) (fun q => by rw [hret] at q; cases q) hlk
  exact ⟨_, retOut X hx hret hn hi hd hr, hrun, _, _, hended, by show Q _ T.heap _; rw [eT]; exact hq, ⟨_, rfl⟩, hW, hsame.mono hc hs⟩
/-- who pays a call -/
def own_Bk (l : Launch) (R : Room) (p : Program) (e : Env) (below : List Frame) (s : State) (args : Array Value) (y : MethodName) (W : Nat) (as : Array Value) (h : Heap) (cc ss : Nat) (Q : Option Value → Heap → List Loc → Prop) : Prop :=
  Back l R p e below s args y 3 W (fun A a => a = as ∧ A.U.heap = h ∧ A.cells + cc ≤ R.cells ∧ A.slots + ss ≤ R.slots) (fun A _ v B => ∃ L, Q v B.U.heap L ∧ B.locs = A.locs ++ L ∧ B.cells = A.cells + cc ∧ B.slots = A.slots + ss)
theorem own_bk {y : MethodName} {bytes : ByteArray} {maxL : Nat} {ret : Option FieldType} {rm : Room} {W : Nat} {as : Array Value} (hM : own_Met l Z y bytes maxL ret rm as h Q) (hZ : Z.Warmed39 s.vm) (wc : (Jvm.Cond.code y bytes maxL ret).before a0 Z = true) (wz : (Jvm.Cond.initialized y.cls).before a0 Z = true) (hf : rm.frames + 1 ≤ R.frames) (hl : W + (maxL + 11) + rm.locals ≤ R.locals) :
    own_Bk l R p e below s args y W as h rm.cells rm.slots Q := backOf (W := W) (hM []) hZ wc wz hf hl
/-- a static method by its contract -/
theorem own_callS (X : Stand p l e R s m args below meth c T locs cells slots) (hx : p.tables.exec = Jvm.exec) (hZ : Z.Warmed39 s.vm) {own : String} {index : Nat} {y : MethodName} {bytes : ByteArray} {maxL : Nat} {ret : Option FieldType} {cc ss : Nat}
    (hown : s.vm.findClass own = some m.cls) (w1 : (Jvm.Cond.methodLink own index y).before a0 Z = true) (w2 : (Jvm.Cond.static y).before a0 Z = true) (w3 : (Jvm.Cond.initialized y.cls).before a0 Z = true) (w4 : (Jvm.Cond.code y bytes maxL ret).before a0 Z = true)
    (hy : y.cls ≠ "java/lang/invoke/MethodHandle" ∧ y.cls ≠ "java/lang/invoke/VarHandle") {W : Nat} {argsL rest : List Value} (hK : own_Bk l R p e below s args y W argsL.toArray h cc ss Q) (eT : T.heap = h)
    {g : JFrame} (hg : g.method = m) (hsize : g.locals.size = c.maxLocals) (hlen : ∀ sig, parseMethodDescriptor y.desc = some sig → argsL.length = sig.parameters.length)
    (hstack : g.stack = argsL.reverse ++ rest) (hW : 2 * g.monitorRoom + (rest.map fun v => v.category).sum ≤ W) (hdg : decode c.code g.pc = .ok (.invokestatic index, 3))
    (hcl : cells + cc ≤ R.cells) (hsl : slots + ss ≤ R.slots)
    (k : ∀ v T' h' L, Stand p l e R s m args below meth c T' (locs ++ L) (cells + cc) (slots + ss) → T'.heap = h' → Q v h' L → own_Run p e below Φ (T'.setTop { g with pc := g.pc + 3, stack := v.toList ++ rest })) : own_Run p e below Φ (T.setTop g) := by
  obtain ⟨v, _, ⟨T', L', k', n'⟩, -, X', ⟨Lc, hQ, l1, y1, z1⟩, st⟩ := Jvm.LawKit.callS X hx (y := y) hown (mvT hZ w1) (mvT hZ w2) (mvT hZ w3) (mvT hZ w4) hy hK hg hsize hlen hstack hW hdg (fun _ _ => ⟨rfl, eT, hcl, hsl⟩)
  dsimp only [Pt.U, Pt.locs, Pt.cells, Pt.slots] at X' l1 y1 z1 st hQ
  subst l1 y1 z1
  exact own_go st (k v T' _ Lc X' rfl hQ)
/-- a constructor by its contract -/
theorem own_callI (X : Stand p l e R s m args below meth c T locs cells slots) (hx : p.tables.exec = Jvm.exec) (hZ : Z.Warmed39 s.vm) {own : String} {index : Nat} {y : MethodName} {bytes : ByteArray} {maxL : Nat} {cc ss : Nat} (hy1 : y.name = "<init>")
    (hown : s.vm.findClass own = some m.cls) (w1 : (Jvm.Cond.methodLink own index y).before a0 Z = true) (w2 : (Jvm.Cond.instanceMethod y).before a0 Z = true) (w4 : (Jvm.Cond.code y bytes maxL none).before a0 Z = true)
    (hy : y.cls ≠ "java/lang/invoke/MethodHandle" ∧ y.cls ≠ "java/lang/invoke/VarHandle") {W : Nat} {a : Addr} {argsL rest : List Value} (hK : own_Bk l R p e below s args y W (.ref a :: argsL).toArray h cc ss Q) (eT : T.heap = h)
    {g : JFrame} (hg : g.method = m) (hsize : g.locals.size = c.maxLocals) (hlen : ∀ sig, parseMethodDescriptor y.desc = some sig → argsL.length = sig.parameters.length)
    (hstack : g.stack = argsL.reverse ++ .ref a :: rest) (hW : 2 * g.monitorRoom + (rest.map fun v => v.category).sum ≤ W) (hdg : decode c.code g.pc = .ok (.invokespecial index, 3))
    (hcl : cells + cc ≤ R.cells) (hsl : slots + ss ≤ R.slots)
    (k : ∀ v T' h' L, Stand p l e R s m args below meth c T' (locs ++ L) (cells + cc) (slots + ss) → T'.heap = h' → Q v h' L → own_Run p e below Φ (T'.setTop { g with pc := g.pc + 3, stack := v.toList ++ rest })) : own_Run p e below Φ (T.setTop g) := by
  obtain ⟨v, _, ⟨T', L', k', n'⟩, -, X', ⟨Lc, hQ, l1, y1, z1⟩, st⟩ := X.specialBack hx (y := y) hy1 hown (mvT hZ w1) (mvT hZ w2) (mvT hZ w4) hy hK hg hsize (Steps.refl _) (a := a) hlen hstack hW hdg (fun _ _ => ⟨rfl, eT, hcl, hsl⟩)
  dsimp only [Pt.U, Pt.locs, Pt.cells, Pt.slots] at X' l1 y1 z1 st hQ
  subst l1 y1 z1
  exact own_via st (k v T' _ Lc X' rfl hQ)
/-- an instance method by the contract of the body that the receiver's class selects -/
theorem own_callV (X : Stand p l e R s m args below meth c T locs cells slots) (hx : p.tables.exec = Jvm.exec) (hZ : Z.Warmed39 s.vm) {own C : String} {index : Nat} {y z : MethodName} {cc ss : Nat}
    (hown : s.vm.findClass own = some m.cls) (w1 : (Jvm.Cond.methodLink own index y).before a0 Z = true) (w2 : (Jvm.Cond.declares y).before a0 Z = true) (hnf : NotFace s y) (w3 : (Jvm.Cond.selects C y z).before a0 Z = true) (w4 : (Jvm.Cond.instanceMethod z).before a0 Z = true)
    (hy : y.cls ≠ "java/lang/invoke/MethodHandle" ∧ y.cls ≠ "java/lang/invoke/VarHandle") {W : Nat} {a : Addr} {argsL rest : List Value} (hK : own_Bk l R p e below s args z W (.ref a :: argsL).toArray h cc ss Q) (eT : T.heap = h) (E : Exa Z h a C)
    {g : JFrame} (hg : g.method = m) (hsize : g.locals.size = c.maxLocals) (hlen : ∀ sig, parseMethodDescriptor y.desc = some sig → argsL.length = sig.parameters.length)
    (hstack : g.stack = argsL.reverse ++ .ref a :: rest) (hW : 2 * g.monitorRoom + (rest.map fun v => v.category).sum ≤ W) (hdg : decode c.code g.pc = .ok (.invokevirtual index, 3))
    (hcl : cells + cc ≤ R.cells) (hsl : slots + ss ≤ R.slots)
    (k : ∀ v T' h' L, Stand p l e R s m args below meth c T' (locs ++ L) (cells + cc) (slots + ss) → T'.heap = h' → Q v h' L → own_Run p e below Φ (T'.setTop { g with pc := g.pc + 3, stack := v.toList ++ rest })) : own_Run p e below Φ (T.setTop g) := by
  obtain ⟨cq, kq, qa, qb, qc⟩ := isOf hZ eT E
  obtain ⟨v, _, ⟨T', L', k', n'⟩, -, X', ⟨Lc, hQ, l1, y1, z1⟩, st⟩ := X.virtualBack hx (y := y) (z := z) hown (mvT hZ w1) (mvT hZ w2) hnf (mvT hZ w3) (mvT hZ w4) hy hK qa qc hg hsize (Steps.refl _) hlen hstack hW hdg (fun _ _ => ⟨rfl, eT, hcl, hsl⟩)
  dsimp only [Pt.U, Pt.locs, Pt.cells, Pt.slots] at X' l1 y1 z1 st hQ
  subst l1 y1 z1
  exact own_via st (k v T' _ Lc X' rfl hQ)
/-- an instance method that a superclass declares -/
theorem own_callU (X : Stand p l e R s m args below meth c T locs cells slots) (hx : p.tables.exec = Jvm.exec) (hZ : Z.Warmed39 s.vm) {own C owner : String} {index : Nat} {y z : MethodName} {cc ss : Nat}
    (hown : s.vm.findClass own = some m.cls) (w1 : (Jvm.Cond.methodLink own index y).before a0 Z = true) (w0 : (Jvm.Cond.sameMethod y.cls owner y.name y.desc).before a0 Z = true) (w2 : (Jvm.Cond.declares ⟨owner, y.name, y.desc⟩).before a0 Z = true) (w3 : (Jvm.Cond.selects C y z).before a0 Z = true) (w4 : (Jvm.Cond.instanceMethod z).before a0 Z = true)
    (hy : owner ≠ "java/lang/invoke/MethodHandle" ∧ owner ≠ "java/lang/invoke/VarHandle") {W : Nat} {a : Addr} {argsL rest : List Value} (hK : own_Bk l R p e below s args z W (.ref a :: argsL).toArray h cc ss Q) (eT : T.heap = h) (E : Exa Z h a C)
    {g : JFrame} (hg : g.method = m) (hsize : g.locals.size = c.maxLocals) (hlen : ∀ sig, parseMethodDescriptor y.desc = some sig → argsL.length = sig.parameters.length)
    (hstack : g.stack = argsL.reverse ++ .ref a :: rest) (hW : 2 * g.monitorRoom + (rest.map fun v => v.category).sum ≤ W) (hdg : decode c.code g.pc = .ok (.invokevirtual index, 3))
    (hcl : cells + cc ≤ R.cells) (hsl : slots + ss ≤ R.slots)
    (k : ∀ v T' h' L, Stand p l e R s m args below meth c T' (locs ++ L) (cells + cc) (slots + ss) → T'.heap = h' → Q v h' L → own_Run p e below Φ (T'.setTop { g with pc := g.pc + 3, stack := v.toList ++ rest })) : own_Run p e below Φ (T.setTop g) := by
  obtain ⟨cq, kq, qa, qb, qc⟩ := isOf hZ eT E
  obtain ⟨v, _, ⟨T', L', k', n'⟩, -, X', ⟨Lc, hQ, l1, y1, z1⟩, st⟩ := X.virtualBackUp hx (x := y) (y := z) hown (mvT hZ w1) (mvT hZ w0) (mvT hZ w2) hy (mvT hZ w3) (mvT hZ w4) hK qa qc hg hsize (Steps.refl _) hlen hstack hW hdg (fun _ _ => ⟨rfl, eT, hcl, hsl⟩)
  dsimp only [Pt.U, Pt.locs, Pt.cells, Pt.slots] at X' l1 y1 z1 st hQ
  subst l1 y1 z1
  exact own_via st (k v T' _ Lc X' rfl hQ)
/-- a private method by its contract -/
theorem own_callP (X : Stand p l e R s m args below meth c T locs cells slots) (hx : p.tables.exec = Jvm.exec) (hZ : Z.Warmed39 s.vm) {own C : String} {index : Nat} {y : MethodName} {bytes : ByteArray} {maxL : Nat} {ret : Option FieldType} {cc ss : Nat}
    (hown : s.vm.findClass own = some m.cls) (w1 : (Jvm.Cond.methodLink own index y).before a0 Z = true) (w2 : (Jvm.Cond.instanceMethod y).before a0 Z = true) (w3 : (Jvm.Cond.selects y.cls y y).before a0 Z = true) (w4 : (Jvm.Cond.privateMethod y).before a0 Z = true) (w6 : (Jvm.Cond.code y bytes maxL ret).before a0 Z = true)
    (hy : y.cls ≠ "java/lang/invoke/MethodHandle" ∧ y.cls ≠ "java/lang/invoke/VarHandle") {W : Nat} {a : Addr} {argsL rest : List Value} (hK : own_Bk l R p e below s args y W (.ref a :: argsL).toArray h cc ss Q) (eT : T.heap = h) (E : Exa Z h a C)
    {g : JFrame} (hg : g.method = m) (hsize : g.locals.size = c.maxLocals) (hlen : ∀ sig, parseMethodDescriptor y.desc = some sig → argsL.length = sig.parameters.length)
    (hstack : g.stack = argsL.reverse ++ .ref a :: rest) (hW : 2 * g.monitorRoom + (rest.map fun v => v.category).sum ≤ W) (hdg : decode c.code g.pc = .ok (.invokevirtual index, 3))
    (hcl : cells + cc ≤ R.cells) (hsl : slots + ss ≤ R.slots)
    (k : ∀ v T' h' L, Stand p l e R s m args below meth c T' (locs ++ L) (cells + cc) (slots + ss) → T'.heap = h' → Q v h' L → own_Run p e below Φ (T'.setTop { g with pc := g.pc + 3, stack := v.toList ++ rest })) : own_Run p e below Φ (T.setTop g) := by
  obtain ⟨cq, q1, q2⟩ := E.cell
  obtain ⟨v, _, ⟨T', L', k', n'⟩, -, X', ⟨Lc, hQ, l1, y1, z1⟩, st⟩ := X.privateBack hx (y := y) hown (mvT hZ w1) (mvT hZ w2) (mvT hZ w3) (Cond.privateMethod_at (mvP hZ w4 (args := #[]))) (mvT hZ w6) hy hK hg hsize (Steps.refl _) (a := a) (by rw [eT]; exact q1) q2 hlen hstack hW hdg (fun _ _ => ⟨rfl, eT, hcl, hsl⟩)
  dsimp only [Pt.U, Pt.locs, Pt.cells, Pt.slots] at X' l1 y1 z1 st hQ
  subst l1 y1 z1
  exact own_via st (k v T' _ Lc X' rfl hQ)
/-- arrays: reading -/
theorem own_iaload (X : Stand p l e R s m args below meth c T locs cells slots) (hx : p.tables.exec = Jvm.exec) (hZ : Z.Warmed39 s.vm) (eT : T.heap = h) {a : Addr} {k : ClassId} {z j : Int32} {vs : List Value} {dv v : Value} (V : Arv Z h a k .int z vs dv) (hj : ¬ j < 0 ∧ j < z) (hv : vs.getD j.toNatClampNeg dv = v)
    {g : JFrame} (hg : g.method = m) {rest : List Value} (hs : g.stack = .int j :: .ref a :: rest) (hd : decode c.code g.pc = .ok (.iaload, 1)) (r : own_Run p e below Φ (T.setTop { g with pc := g.pc + 1, stack := v :: rest })) : own_Run p e below Φ (T.setTop g) := by
  obtain ⟨cl, A, -, S, -, H, -⟩ := V
  exact own_go (fun t q => X.iaload hx (j := j) (v := v) (by rw [eT]; exact A.1) (State.isArrayOf_alike hZ.alike A.2.1) A.2.2 (inb_of S hj) (Has.at H (inb_of S hj) hv) hg hs hd t q) r
theorem own_laload (X : Stand p l e R s m args below meth c T locs cells slots) (hx : p.tables.exec = Jvm.exec) (hZ : Z.Warmed39 s.vm) (eT : T.heap = h) {a : Addr} {k : ClassId} {z j : Int32} {vs : List Value} {dv v : Value} (V : Arv Z h a k .long z vs dv) (hj : ¬ j < 0 ∧ j < z) (hv : vs.getD j.toNatClampNeg dv = v)
    {g : JFrame} (hg : g.method = m) {rest : List Value} (hs : g.stack = .int j :: .ref a :: rest) (hd : decode c.code g.pc = .ok (.laload, 1)) (r : own_Run p e below Φ (T.setTop { g with pc := g.pc + 1, stack := v :: rest })) : own_Run p e below Φ (T.setTop g) := by
  obtain ⟨cl, A, -, S, -, H, -⟩ := V
  exact own_go (fun t q => X.laload hx (j := j) (v := v) (by rw [eT]; exact A.1) (State.isArrayOf_alike hZ.alike A.2.1) A.2.2 (inb_of S hj) (Has.at H (inb_of S hj) hv) hg hs hd t q) r
theorem own_caload (X : Stand p l e R s m args below meth c T locs cells slots) (hx : p.tables.exec = Jvm.exec) (hZ : Z.Warmed39 s.vm) (eT : T.heap = h) {a : Addr} {k : ClassId} {z j : Int32} {vs : List Value} {dv v : Value} (V : Arv Z h a k .char z vs dv) (hj : ¬ j < 0 ∧ j < z) (hv : vs.getD j.toNatClampNeg dv = v)
    {g : JFrame} (hg : g.method = m) {rest : List Value} (hs : g.stack = .int j :: .ref a :: rest) (hd : decode c.code g.pc = .ok (.caload, 1)) (r : own_Run p e below Φ (T.setTop { g with pc := g.pc + 1, stack := v :: rest })) : own_Run p e below Φ (T.setTop g) := by
  obtain ⟨cl, A, -, S, -, H, -⟩ := V
  exact own_go (fun t q => X.caload hx (j := j) (v := v) (by rw [eT]; exact A.1) (State.isArrayOf_alike hZ.alike A.2.1) A.2.2 (inb_of S hj) (Has.at H (inb_of S hj) hv) hg hs hd t q) r
theorem own_baload (X : Stand p l e R s m args below meth c T locs cells slots) (hx : p.tables.exec = Jvm.exec) (hZ : Z.Warmed39 s.vm) (eT : T.heap = h) {a : Addr} {k : ClassId} {z j : Int32} {vs : List Value} {dv v : Value} (V : Arv Z h a k .byte z vs dv) (hj : ¬ j < 0 ∧ j < z) (hv : vs.getD j.toNatClampNeg dv = v)
    {g : JFrame} (hg : g.method = m) {rest : List Value} (hs : g.stack = .int j :: .ref a :: rest) (hd : decode c.code g.pc = .ok (.baload, 1)) (r : own_Run p e below Φ (T.setTop { g with pc := g.pc + 1, stack := v :: rest })) : own_Run p e below Φ (T.setTop g) := by
  obtain ⟨cl, A, -, S, -, H, -⟩ := V
  exact own_go (fun t q => X.baloadBytes hx (j := j) (v := v) (by rw [eT]; exact A.1) (State.isArrayOf_alike hZ.alike A.2.1) A.2.2 (inb_of S hj) (Has.at H (inb_of S hj) hv) hg hs hd t q) r
theorem own_arrlen (X : Stand p l e R s m args below meth c T locs cells slots) (hx : p.tables.exec = Jvm.exec) (hZ : Z.Warmed39 s.vm) (eT : T.heap = h) {a : Addr} {k : ClassId} {ty : FieldType} {z : Int32} {vs : List Value} {dv : Value} (V : Arv Z h a k ty z vs dv)
    {g : JFrame} (hg : g.method = m) {rest : List Value} (hs : g.stack = .ref a :: rest) (hd : decode c.code g.pc = .ok (.arraylength, 1)) (r : own_Run p e below Φ (T.setTop { g with pc := g.pc + 1, stack := .int z :: rest })) : own_Run p e below Φ (T.setTop g) := by
  obtain ⟨cl, A, -, S, M, -, -⟩ := V
  refine own_go (fun t q => X.arraylength hx (by rw [eT]; exact A.1) (State.isArrayOf_alike hZ.alike A.2.1) hg hs hd t q) ?_
  rw [len_of S M]; exact r
/-- arrays: writing -/
theorem own_iastore (X : Stand p l e R s m args below meth c T locs cells slots) (hx : p.tables.exec = Jvm.exec) (hZ : Z.Warmed39 s.vm) (eT : T.heap = h) {a : Addr} {k : ClassId} {z j x : Int32} {vs : List Value} {dv : Value} (V : Arv Z h a k .int z vs dv) (hj : ¬ j < 0 ∧ j < z) (i : Nat) (hi : j.toNatClampNeg = i) (hl : i < vs.length)
    {g : JFrame} (hg : g.method = m) {rest : List Value} (hs : g.stack = .int x :: .int j :: .ref a :: rest) (hd : decode c.code g.pc = .ok (.iastore, 1))
    (r : ∀ T' h', Stand p l e R s m args below meth c T' (locs ++ [⟨a, j.toNatClampNeg⟩]) cells slots → T'.heap = h' → Wr h h' a j.toNatClampNeg (.int x) → Arv Z h' a k .int z (vs.set i (.int x)) dv → own_Run p e below Φ (T'.setTop { g with pc := g.pc + 1, stack := rest })) : own_Run p e below Φ (T.setTop g) := by
  obtain ⟨cl, A, q, S, N, H, G⟩ := V
  obtain ⟨T', h', X', e', W, st⟩ := stI X hx hZ eT A (j := j) (inb_of S hj) hg hs hd
  exact own_go st (r T' h' X' e' W (Arv.set A q S N H G rfl W i hi hl))
theorem own_lastore (X : Stand p l e R s m args below meth c T locs cells slots) (hx : p.tables.exec = Jvm.exec) (hZ : Z.Warmed39 s.vm) (eT : T.heap = h) {a : Addr} {k : ClassId} {z j : Int32} {x : Int64} {vs : List Value} {dv : Value} (V : Arv Z h a k .long z vs dv) (hj : ¬ j < 0 ∧ j < z) (i : Nat) (hi : j.toNatClampNeg = i) (hl : i < vs.length)
    {g : JFrame} (hg : g.method = m) {rest : List Value} (hs : g.stack = .long x :: .int j :: .ref a :: rest) (hd : decode c.code g.pc = .ok (.lastore, 1))
    (r : ∀ T' h', Stand p l e R s m args below meth c T' (locs ++ [⟨a, j.toNatClampNeg⟩]) cells slots → T'.heap = h' → Wr h h' a j.toNatClampNeg (.long x) → Arv Z h' a k .long z (vs.set i (.long x)) dv → own_Run p e below Φ (T'.setTop { g with pc := g.pc + 1, stack := rest })) : own_Run p e below Φ (T.setTop g) := by
  obtain ⟨cl, A, q, S, N, H, G⟩ := V
  obtain ⟨T', h', X', e', W, st⟩ := stJ X hx hZ eT A (j := j) (inb_of S hj) hg hs hd
  exact own_go st (r T' h' X' e' W (Arv.set A q S N H G rfl W i hi hl))
theorem own_bastore (X : Stand p l e R s m args below meth c T locs cells slots) (hx : p.tables.exec = Jvm.exec) (hZ : Z.Warmed39 s.vm) (eT : T.heap = h) {a : Addr} {k : ClassId} {z j x : Int32} {vs : List Value} {dv : Value} (V : Arv Z h a k .byte z vs dv) (hj : ¬ j < 0 ∧ j < z) (i : Nat) (hi : j.toNatClampNeg = i) (hl : i < vs.length)
    {g : JFrame} (hg : g.method = m) {rest : List Value} (hs : g.stack = .int x :: .int j :: .ref a :: rest) (hd : decode c.code g.pc = .ok (.bastore, 1))
    (r : ∀ T' h', Stand p l e R s m args below meth c T' (locs ++ [⟨a, j.toNatClampNeg⟩]) cells slots → T'.heap = h' → Wr h h' a j.toNatClampNeg (.int x.toInt8.toInt32) → Arv Z h' a k .byte z (vs.set i (.int x.toInt8.toInt32)) dv → own_Run p e below Φ (T'.setTop { g with pc := g.pc + 1, stack := rest })) : own_Run p e below Φ (T.setTop g) := by
  obtain ⟨cl, A, q, S, N, H, G⟩ := V
  obtain ⟨T', h', X', e', W, st⟩ := stB X hx hZ eT A (j := j) (inb_of S hj) hg hs hd
  exact own_go st (r T' h' X' e' W (Arv.set A q S N H G (fits_nar_byte _) W i hi hl))
theorem own_castore (X : Stand p l e R s m args below meth c T locs cells slots) (hx : p.tables.exec = Jvm.exec) (hZ : Z.Warmed39 s.vm) (eT : T.heap = h) {a : Addr} {k : ClassId} {z j x : Int32} {vs : List Value} {dv : Value} (V : Arv Z h a k .char z vs dv) (hj : ¬ j < 0 ∧ j < z) (i : Nat) (hi : j.toNatClampNeg = i) (hl : i < vs.length)
    {g : JFrame} (hg : g.method = m) {rest : List Value} (hs : g.stack = .int x :: .int j :: .ref a :: rest) (hd : decode c.code g.pc = .ok (.castore, 1))
    (r : ∀ T' h', Stand p l e R s m args below meth c T' (locs ++ [⟨a, j.toNatClampNeg⟩]) cells slots → T'.heap = h' → Wr h h' a j.toNatClampNeg (.int (nar .char x)) → Arv Z h' a k .char z (vs.set i (.int (nar .char x))) dv → own_Run p e below Φ (T'.setTop { g with pc := g.pc + 1, stack := rest })) : own_Run p e below Φ (T.setTop g) := by
  obtain ⟨cl, A, q, S, N, H, G⟩ := V
  obtain ⟨T', h', X', e', W, st⟩ := stC X hx hZ eT A (j := j) (inb_of S hj) hg hs hd
  exact own_go st (r T' h' X' e' W (Arv.set A q S N H G (fits_nar_char _) W i hi hl))
theorem own_newP (X : Stand p l e R s m args below meth c T locs cells slots) (hx : p.tables.exec = Jvm.exec) (hZ : Z.Warmed39 s.vm) {aty : ArrayType} (w : (Jvm.Cond.arrayClass (newarray.typeOf aty)).before a0 Z = true) (eT : T.heap = h) {g : JFrame} (hg : g.method = m) (hd : decode c.code g.pc = .ok (.newarray aty, 2)) {n : Int32} {rest : List Value} (hs : g.stack = .int n :: rest)
    (hn : ¬ n < 0) (cap : Nat) (hcap : n.toNatClampNeg ≤ cap) (hb : cap * 8 ≤ 536870912) (hc : cells + 1 ≤ R.cells) (hl : slots + cap ≤ R.slots) (N : Nat)
    (r : ∀ T' h' cA a, Stand p l e R s m args below meth c T' locs (cells + 1) (slots + cap) → T'.heap = h' → Ext h h' → a = h.size → Arv Z h' a cA (newarray.typeOf aty) n (List.replicate N (defaultValue (newarray.typeOf aty))) (defaultValue (newarray.typeOf aty)) → own_Run p e below Φ (T'.setTop { g with pc := g.pc + 2, stack := .ref a :: rest })) : own_Run p e below Φ (T.setTop g) := by
  obtain ⟨T', h', cA, X', e', E, A, st⟩ := newP X hx hZ w eT hg hd hs hn hcap hb hc hl
  have V := Arv.new A hn
  have q : ∀ i, (List.replicate N (defaultValue (newarray.typeOf aty))).getD i (defaultValue (newarray.typeOf aty)) = ([] : List Value).getD i (defaultValue (newarray.typeOf aty)) := pad_rep [] (defaultValue (newarray.typeOf aty)) N
  exact own_go st (r T' h' cA h.size X' e' E rfl (V.pad q))
theorem own_newRA (X : Stand p l e R s m args below meth c T locs cells slots) (hx : p.tables.exec = Jvm.exec) (hZ : Z.Warmed39 s.vm) {own C : String} {ty : FieldType} {index : Nat} (hown : s.vm.findClass own = some m.cls) (hC : (FieldType.array ty).toString = C) (w1 : (Jvm.Cond.classLink own index C).before a0 Z = true) (w2 : (Jvm.Cond.arrayOver (.array ty)).before a0 Z = true) (eT : T.heap = h) {g : JFrame} (hg : g.method = m) (hd : decode c.code g.pc = .ok (.anewarray index, 3)) {n : Int32} {rest : List Value} (hs : g.stack = .int n :: rest)
    (hn : ¬ n < 0) (cap : Nat) (hcap : n.toNatClampNeg ≤ cap) (hb : cap * 8 ≤ 536870912) (hc : cells + 1 ≤ R.cells) (hl : slots + cap ≤ R.slots) (N : Nat)
    (r : ∀ T' h' cA a, Stand p l e R s m args below meth c T' locs (cells + 1) (slots + cap) → T'.heap = h' → Ext h h' → a = h.size → Arv Z h' a cA (.array ty) n (List.replicate N .null) .null → OvrA Z cA ty C → own_Run p e below Φ (T'.setTop { g with pc := g.pc + 3, stack := .ref a :: rest })) : own_Run p e below Φ (T.setTop g) := by
  obtain ⟨T', h', cA, X', e', E, A, -, O, st⟩ := newRA X hx hZ hown hC w1 w2 eT hg hd hs hn hcap hb hc hl rfl
  have V := Arv.new A hn
  have q : ∀ i, (List.replicate N Value.null).getD i Value.null = ([] : List Value).getD i Value.null := pad_rep [] Value.null N
  exact own_go st (r T' h' cA h.size X' e' E rfl (V.pad q) O)
theorem own_aaload (X : Stand p l e R s m args below meth c T locs cells slots) (hx : p.tables.exec = Jvm.exec) (hZ : Z.Warmed39 s.vm) (eT : T.heap = h) {a : Addr} {k : ClassId} {ty : FieldType} {z j : Int32} {vs : List Value} {dv v : Value} (V : Arv Z h a k ty z vs dv) (hty : ty.isReference = true) (hj : ¬ j < 0 ∧ j < z) (hv : vs.getD j.toNatClampNeg dv = v)
    {g : JFrame} (hg : g.method = m) {rest : List Value} (hs : g.stack = .int j :: .ref a :: rest) (hd : decode c.code g.pc = .ok (.aaload, 1)) (r : own_Run p e below Φ (T.setTop { g with pc := g.pc + 1, stack := v :: rest })) : own_Run p e below Φ (T.setTop g) := by
  obtain ⟨cl, A, -, S, -, H, -⟩ := V
  exact own_go (fun t q => X.aaload hx (j := j) (v := v) (by rw [eT]; exact A.1) (State.isArrayOf_alike hZ.alike A.2.1) hty A.2.2 (inb_of S hj) (Has.at H (inb_of S hj) hv) hg hs hd t q) r
theorem own_le {a b c d : Nat} (h1 : a ≤ b) (h2 : b + c ≤ d) : a + c ≤ d := Nat.le_trans (Nat.add_le_add_right h1 c) h2
/-- the case's words on statics -/
theorem own_eqI {args : Array Value} {first s : State} {o : Option Outcome} {idx : List Nat} {t : Term} {k : Int32} (h : (Jvm.Cond.eq t (.int k)).value args first o s idx = some true) : t.eval args first o idx s = some (.int k) := by
  cases ht : t.eval args first o idx s with
  | none => simp [Cond.value, ht] at h
  | some x => cases x <;> simp [Cond.value, Term.eval, ht] at h ⊢; exact h
theorem own_fldI {args : Array Value} {t : Term} {x : Addr} {C n d : String} {k : Int32} (ht : t.eval args Z none [] Z = some (.ref x)) (h : (Jvm.Cond.eq (.field t C n d) (.int k)).value args Z none Z [] = some true) : Fld Z Z.heap x C n d (.int k) := Fld.start ((fld_at ht).symm.trans (own_eqI h))
end OwnRun
theorem own_dc1 : FP.dconst1 = FP.l2d (1 : Int64) := by decide +kernel
def own_d (x0 x1 x2 x3 x4 : Int32) (n : Nat) : Int32 := if n = 0 then x0 else if n = 1 then x1 else if n = 2 then x2 else if n = 3 then x3 else x4
/-- what has been chosen of the first j: k of them, the i-th is σ i -/
def own_I (d : Nat → Int32) (j : Nat) (k : Int32) (us es : List Value) (kn : Nat) (σ : Nat → Nat) : Prop :=
  k.toInt = kn ∧ kn ≤ j ∧ us.length = 5 ∧ es.length = 5 ∧ (∀ i, i < kn → σ i < j ∧ us.getD i (.int (0 : Int32)) = .int (d (σ i)) ∧ es.getD i (.int (0 : Int32)) = .int (Int32.ofInt (σ i : Int))) ∧ ∀ i i', i < i' → i' < kn → σ i < σ i'
def own_J (d : Nat → Int32) (j : Nat) (k : Int32) (us es : List Value) : Prop := ∃ kn σ, own_I d j k us es kn σ
theorem own_J0 (d : Nat → Int32) : own_J d 0 (0 : Int32) [.int (0 : Int32), .int (0 : Int32), .int (0 : Int32), .int (0 : Int32), .int (0 : Int32)] [.int (0 : Int32), .int (0 : Int32), .int (0 : Int32), .int (0 : Int32), .int (0 : Int32)] :=
  ⟨0, fun _ => 0, rfl, Nat.le_refl _, rfl, rfl, fun _ h => absurd h (Nat.not_lt_zero _), fun _ _ _ h => absurd h (Nat.not_lt_zero _)⟩
theorem own_J1 {d : Nat → Int32} {j : Nat} {k : Int32} {us es : List Value} (h : own_J d j k us es) : own_J d (j + 1) k us es := by
  obtain ⟨kn, σ, h1, h2, h3, h4, h5, h6⟩ := h
  exact ⟨kn, σ, h1, by omega, h3, h4, fun i hi => ⟨Nat.lt_succ_of_lt (h5 i hi).1, (h5 i hi).2⟩, h6⟩
theorem own_Jb {d : Nat → Int32} {j : Nat} {k : Int32} {us es : List Value} (h : own_J d j k us es) (hj : j < 5) : (¬ k < 0 ∧ k < (5 : Int32)) ∧ k.toNatClampNeg < us.length ∧ k.toNatClampNeg < es.length := by
  obtain ⟨kn, σ, h1, h2, h3, h4, -⟩ := h
  simp only [Int32.lt_iff_toInt_lt, Int32.reduceToInt, Int32.toNatClampNeg, h3, h4]; omega
theorem own_get {l : List Value} {a i : Nat} {x d : Value} (h : a < l.length) : (l.set a x).getD i d = if a = i then x else l.getD i d := by
  simp only [List.getD_eq_getElem?_getD]
  by_cases q : a = i
  · subst q; simp [h]
  · rw [List.getElem?_set_ne q, if_neg q]
theorem own_J2 {d : Nat → Int32} {j : Nat} {k : Int32} {us es : List Value} (h : own_J d j k us es) (hj : j < 5) {x y : Int32} (hx : x = d j) (hy : y = Int32.ofInt (j : Int)) : own_J d (j + 1) (k + (1 : Int32)) (us.set k.toNatClampNeg (.int x)) (es.set k.toNatClampNeg (.int y)) := by
  obtain ⟨kn, σ, h1, h2, h3, h4, h5, h6⟩ := h
  have hk : k.toNatClampNeg = kn := by simp only [Int32.toNatClampNeg, h1]; omega
  have hs := c_iadd k (1 : Int32); have hr := rng32 (k + (1 : Int32)); simp only [Int32.reduceToInt] at hs
  refine ⟨kn + 1, fun i => if i = kn then j else σ i, by omega, by omega, by rw [List.length_set]; exact h3, by rw [List.length_set]; exact h4, fun i hi => ?_, fun i i' h7 h8 => ?_⟩
  · rw [hk, own_get (by omega), own_get (by omega)]
    by_cases q : i = kn
    · subst q; simp [hx, hy]
    · have := h5 i (by omega)
      simp only [if_neg q, if_neg (Ne.symm q)]
      exact ⟨by omega, this.2⟩
  · by_cases q : i' = kn
    · have := h5 i (by omega)
      simp only [if_pos q, if_neg (show ¬ i = kn by omega)]; exact this.1
    · simp only [if_neg q, if_neg (show ¬ i = kn by omega)]; exact h6 i i' h7 (by omega)
theorem own_dv (x0 x1 x2 x3 x4 : Int32) (n : Nat) (h : n < 5) : [Value.int x0, .int x1, .int x2, .int x3, .int x4].getD n (.int (0 : Int32)) = .int (own_d x0 x1 x2 x3 x4 n) := by
  match n, h with
  | 0, _ => rfl
  | 1, _ => rfl
  | 2, _ => rfl
  | 3, _ => rfl
  | 4, _ => rfl
theorem own_inj {x0 x1 x2 x3 x4 : Int32} (h0 : x0.toInt < x1.toInt) (h1 : x1.toInt < x2.toInt) (h2 : x2.toInt < x3.toInt) (h3 : x3.toInt < x4.toInt) {i j : Nat} (hi : i < j) (hj : j < 5) : ¬ own_d x0 x1 x2 x3 x4 i = own_d x0 x1 x2 x3 x4 j := by
  have lt : (own_d x0 x1 x2 x3 x4 i).toInt < (own_d x0 x1 x2 x3 x4 j).toInt := by
    unfold own_d
    repeat' split
    all_goals omega
  intro q; rw [q] at lt; omega
theorem own_up {x g : Int32} {lo hi : Int} (h1 : lo ≤ x.toInt) (h2 : x.toInt ≤ hi) (h3 : -2147483648 ≤ lo) (h4 : hi ≤ 1342177280) : (x + (1 : Int32) + (g &&& (268435455 : Int32))).toInt = x.toInt + 1 + (g &&& (268435455 : Int32)).toInt ∧ 0 ≤ (g &&& (268435455 : Int32)).toInt ∧ (g &&& (268435455 : Int32)).toInt ≤ 268435455 := by
  have m := c_mask g 268435455 28 (by decide) (by decide)
  have s1 := c_iadd x (1 : Int32); have s2 := c_iadd (x + (1 : Int32)) (g &&& (268435455 : Int32))
  have r1 := rng32 (x + (1 : Int32)); have r2 := rng32 (x + (1 : Int32) + (g &&& (268435455 : Int32)))
  simp only [Int32.reduceToInt] at s1
  omega
theorem own_base (x : Int32) : -268435456 ≤ (x >>> ((3 : Int32) &&& 31)).toInt ∧ (x >>> ((3 : Int32) &&& 31)).toInt ≤ 268435455 := by
  have := c_ishr x 3 3 (by decide); have := rng32 x; omega
theorem d1_0 : decode prog_31_method_1_code 0 = .ok (.aload_n 0, 1) := by decide +kernel
theorem d1_1 : decode prog_31_method_1_code 1 = .ok (.invokespecial 1, 3) := by decide +kernel
theorem d1_4 : decode prog_31_method_1_code 4 = .ok (.aload_n 0, 1) := by decide +kernel
theorem d1_5 : decode prog_31_method_1_code 5 = .ok (.aload_n 1, 1) := by decide +kernel
theorem d1_6 : decode prog_31_method_1_code 6 = .ok (.putfield 7, 3) := by decide +kernel
theorem d1_9 : decode prog_31_method_1_code 9 = .ok (.aload_n 0, 1) := by decide +kernel
theorem d1_10 : decode prog_31_method_1_code 10 = .ok (.aload_n 2, 1) := by decide +kernel
theorem d1_11 : decode prog_31_method_1_code 11 = .ok (.putfield 13, 3) := by decide +kernel
theorem d1_14 : decode prog_31_method_1_code 14 = .ok (.aload_n 0, 1) := by decide +kernel
theorem d1_15 : decode prog_31_method_1_code 15 = .ok (.iload_n 3, 1) := by decide +kernel
theorem d1_16 : decode prog_31_method_1_code 16 = .ok (.putfield 16, 3) := by decide +kernel
theorem d1_19 : decode prog_31_method_1_code 19 = .ok (.aload_n 0, 1) := by decide +kernel
theorem d1_20 : decode prog_31_method_1_code 20 = .ok (.dload 4, 2) := by decide +kernel
theorem d1_22 : decode prog_31_method_1_code 22 = .ok (.putfield 20, 3) := by decide +kernel
theorem d1_25 : decode prog_31_method_1_code 25 = .ok (.return_, 1) := by decide +kernel
theorem pn_c1 : plainName "com/example/glossyn/glossyn/search/Candidates" = true := by first | (simp [plainName, overriddenIn]; done) | decide +kernel
theorem ef_1_RRRID (m : MethodId) (x0 : Addr) (x1 : Addr) (x2 : Addr) (x3 : Int32) (x4 : UInt64) : entryFrame m #[(.ref x0), (.ref x1), (.ref x2), (.int x3), (.double x4)] 6 = mkF m 0 #[.val (.ref x0), .val (.ref x1), .val (.ref x2), .val (.int x3), .val (.double x4), .second] [] := by first | (simp [entryFrame, mkF, argsToLocals, Value.category]; done) | rfl
set_option maxRecDepth 65536 in
set_option maxHeartbeats 40000000 in
theorem rm_ca (l : Launch) (Z : State) (a0 : Array Value) (hw : ∀ d ∈ tables_1, d.before a0 Z = true) (a1 : Addr) (a2 : Addr) (a3 : Addr) (p4 : Int32) (d5 : UInt64) (h0 : Heap) (n0 : Nat) (H1 : Exa Z h0 a1 "com/example/glossyn/glossyn/search/Candidates") (H2 : Fld Z h0 a1 "com/example/glossyn/glossyn/search/Candidates" "documents" "[I" .null) (H3 : Fld Z h0 a1 "com/example/glossyn/glossyn/search/Candidates" "lengths" "[I" .null) (H4 : Fld Z h0 a1 "com/example/glossyn/glossyn/search/Candidates" "documentCount" "I" (.int (0 : Int32))) (H5 : Fld Z h0 a1 "com/example/glossyn/glossyn/search/Candidates" "averageLength" "D" (.double 0)) (H6 : n0 ≤ a1) :
    own_Met l Z (⟨"com/example/glossyn/glossyn/search/Candidates", "<init>", "([I[IID)V"⟩ : MethodName) prog_31_method_1_code 6 none ({ frames := 1, cells := 0, slots := 0, locals := 12 } : Room) #[(.ref a1), (.ref a2), (.ref a3), (.int p4), (.double d5)] h0 (fun v h L => v = none ∧ Fr n0 L ∧ Keep h0 h [a1] ∧ Fld Z h a1 "com/example/glossyn/glossyn/search/Candidates" "documents" "[I" (.ref a2)) := by
  intro ws
  refine MetFree.of_bodySF (plainFor_of_name pn_c1) hisR ?_
  intro p e s m args below meth c s₁ Bd hml0 hP hK
  obtain ⟨rfl, hZ, hh⟩ := hP
  have hx := Bd.exec
  have hby := Bd.bytes
  have hml : c.maxLocals = 6 := hml0
  have hown : s.vm.findClass "com/example/glossyn/glossyn/search/Candidates" = some m.cls := findClass_of_methodNamed Bd.named
  have hnm := (name_of_methodNamed Bd.named Bd.method).1
  have hlk : meth.locks = false := Bd.notSynchronized
  have X0 : Stand p l e ({ frames := 1, cells := 0, slots := 0, locals := 12 } : Room) s m #[(.ref a1), (.ref a2), (.ref a3), (.int p4), (.double d5)] below meth c s₁ [] 0 0 := Stand.of_body Bd
  have e0 : s₁.heap = h0 := by rw [← hh, Bd.state]; rfl
  have N0 := Fr.nil n0
  refine own_body (Q := fun v h L => v = none ∧ Fr n0 L ∧ Keep h0 h [a1] ∧ Fld Z h a1 "com/example/glossyn/glossyn/search/Candidates" "documents" "[I" (.ref a2)) ?_
  generalize hΦ : own_Fin s below _ _ _ = Φ
  refine own_cast (ef_1_RRRID m a1 a2 a3 p4 d5) ?_
  have K0 := Keep.refl h0 [a1]
  show own_Run p e below Φ (s₁.setTop (mkF m 0 #[.val (.ref a1), .val (.ref a2), .val (.ref a3), .val (.int p4), .val (.double d5), .second] []))
  refine own_go (fun t k => XS.aloadN X0.here hx rfl (hb hby d1_0) rfl rfl  k) ?_
  obtain ⟨T1, X1, e1, st1⟩ := initO X0 hx hZ hown (hw _ (List.mem_of_getElem? (i := 8) rfl)) (hw _ (List.mem_of_getElem? (i := 9) rfl)) (hw _ (List.mem_of_getElem? (i := 10) rfl)) e0 (g := (mkF m 1 #[.val (.ref a1), .val (.ref a2), .val (.ref a3), .val (.int p4), .val (.double d5), .second] [(.ref a1)])) rfl (by rw [hml]; rfl) rfl (hb hby d1_1) (by decide) (W := 0) (by show 2 * 0 + _ ≤ _; exact Nat.le_of_eq rfl) (by decide)
  refine own_go st1 ?_
  refine own_go (fun t k => XS.aloadN X1.here hx rfl (hb hby d1_4) rfl rfl  k) ?_
  refine own_go (fun t k => XS.aloadN X1.here hx rfl (hb hby d1_5) rfl rfl  k) ?_
  obtain ⟨T2, h2, X2, e2, W2, st2⟩ := putF X1 hx hZ hown (host := "") (Or.inl (hw _ (List.mem_of_getElem? (i := 11) rfl))) Via.refl e1 H2 H1 (Or.inr ⟨(hw _ (List.mem_of_getElem? (i := 12) rfl)), rfl, hnm⟩) (hw _ (List.mem_of_getElem? (i := 3) rfl)) (ty := (.array .int)) (by decide) rfl rfl (g := (mkF m 6 #[.val (.ref a1), .val (.ref a2), .val (.ref a3), .val (.int p4), .val (.double d5), .second] [(.ref a2), (.ref a1)])) rfl rfl (hb hby d1_6)
  refine own_go st2 ?_
  have G2 : Fld Z h2 a1 "com/example/glossyn/glossyn/search/Candidates" "documents" "[I" (.ref a2) := H2.same W2
  have N2 := Fr.snoc X2 N0 H6
  show own_Run p e below Φ (T2.setTop (mkF m 9 #[.val (.ref a1), .val (.ref a2), .val (.ref a3), .val (.int p4), .val (.double d5), .second] []))
  refine own_go (fun t k => XS.aloadN X2.here hx rfl (hb hby d1_9) rfl rfl  k) ?_
  refine own_go (fun t k => XS.aloadN X2.here hx rfl (hb hby d1_10) rfl rfl  k) ?_
  have F3 : Fld Z h2 a1 "com/example/glossyn/glossyn/search/Candidates" "lengths" "[I" .null := (H3.other W2 (Or.inr (slot_ne (Or.inr (hw _ (List.mem_of_getElem? (i := 14) rfl))) (Or.inr (hw _ (List.mem_of_getElem? (i := 12) rfl))) (by decide) (t := (.array .int)) (t' := (.array .int)) (by decide) (by decide))))
  have F4 : Exa Z h2 a1 "com/example/glossyn/glossyn/search/Candidates" := (H1.wr W2)
  obtain ⟨T5, h5, X5, e5, W5, st5⟩ := putF X2 hx hZ hown (host := "") (Or.inl (hw _ (List.mem_of_getElem? (i := 13) rfl))) Via.refl e2 F3 F4 (Or.inr ⟨(hw _ (List.mem_of_getElem? (i := 14) rfl)), rfl, hnm⟩) (hw _ (List.mem_of_getElem? (i := 3) rfl)) (ty := (.array .int)) (by decide) rfl rfl (g := (mkF m 11 #[.val (.ref a1), .val (.ref a2), .val (.ref a3), .val (.int p4), .val (.double d5), .second] [(.ref a3), (.ref a1)])) rfl rfl (hb hby d1_11)
  refine own_go st5 ?_
  have G5 : Fld Z h5 a1 "com/example/glossyn/glossyn/search/Candidates" "lengths" "[I" (.ref a3) := F3.same W5
  have N5 := Fr.snoc X5 N2 H6
  refine own_go (fun t k => XS.aloadN X5.here hx rfl (hb hby d1_14) rfl rfl  k) ?_
  refine own_go (fun t k => XS.iloadN X5.here hx rfl (hb hby d1_15) rfl  k) ?_
  show own_Run p e below Φ (T5.setTop (mkF m 16 #[.val (.ref a1), .val (.ref a2), .val (.ref a3), .val (.int p4), .val (.double d5), .second] [(.int p4), (.ref a1)]))
  have F6 : Fld Z h5 a1 "com/example/glossyn/glossyn/search/Candidates" "documentCount" "I" (.int (0 : Int32)) := ((H4.other W2 (Or.inr (slot_ne (Or.inr (hw _ (List.mem_of_getElem? (i := 16) rfl))) (Or.inr (hw _ (List.mem_of_getElem? (i := 12) rfl))) (by decide) (t := .int) (t' := (.array .int)) (by decide) (by decide)))).other W5 (Or.inr (slot_ne (Or.inr (hw _ (List.mem_of_getElem? (i := 16) rfl))) (Or.inr (hw _ (List.mem_of_getElem? (i := 14) rfl))) (by decide) (t := .int) (t' := (.array .int)) (by decide) (by decide))))
  have F7 : Exa Z h5 a1 "com/example/glossyn/glossyn/search/Candidates" := (F4.wr W5)
  obtain ⟨T8, h8, X8, e8, W8, st8⟩ := putF X5 hx hZ hown (host := "") (Or.inl (hw _ (List.mem_of_getElem? (i := 15) rfl))) Via.refl e5 F6 F7 (Or.inr ⟨(hw _ (List.mem_of_getElem? (i := 16) rfl)), rfl, hnm⟩) (hw _ (List.mem_of_getElem? (i := 3) rfl)) (ty := .int) (by decide) rfl rfl (g := (mkF m 16 #[.val (.ref a1), .val (.ref a2), .val (.ref a3), .val (.int p4), .val (.double d5), .second] [(.int p4), (.ref a1)])) rfl rfl (hb hby d1_16)
  refine own_go st8 ?_
  have G8 : Fld Z h8 a1 "com/example/glossyn/glossyn/search/Candidates" "documentCount" "I" (.int p4) := F6.same W8
  have N8 := Fr.snoc X8 N5 H6
  refine own_go (fun t k => XS.aloadN X8.here hx rfl (hb hby d1_19) rfl rfl  k) ?_
  refine own_go (fun t k => XS.dload X8.here hx rfl (hb hby d1_20) rfl  k) ?_
  have F9 : Fld Z h8 a1 "com/example/glossyn/glossyn/search/Candidates" "averageLength" "D" (.double 0) := (((H5.other W2 (Or.inr (slot_ne (Or.inr (hw _ (List.mem_of_getElem? (i := 18) rfl))) (Or.inr (hw _ (List.mem_of_getElem? (i := 12) rfl))) (by decide) (t := .double) (t' := (.array .int)) (by decide) (by decide)))).other W5 (Or.inr (slot_ne (Or.inr (hw _ (List.mem_of_getElem? (i := 18) rfl))) (Or.inr (hw _ (List.mem_of_getElem? (i := 14) rfl))) (by decide) (t := .double) (t' := (.array .int)) (by decide) (by decide)))).other W8 (Or.inr (slot_ne (Or.inr (hw _ (List.mem_of_getElem? (i := 18) rfl))) (Or.inr (hw _ (List.mem_of_getElem? (i := 16) rfl))) (by decide) (t := .double) (t' := .int) (by decide) (by decide))))
  have F10 : Exa Z h8 a1 "com/example/glossyn/glossyn/search/Candidates" := (F7.wr W8)
  obtain ⟨T11, h11, X11, e11, W11, st11⟩ := putF X8 hx hZ hown (host := "") (Or.inl (hw _ (List.mem_of_getElem? (i := 17) rfl))) Via.refl e8 F9 F10 (Or.inr ⟨(hw _ (List.mem_of_getElem? (i := 18) rfl)), rfl, hnm⟩) (hw _ (List.mem_of_getElem? (i := 3) rfl)) (ty := .double) (by decide) rfl rfl (g := (mkF m 22 #[.val (.ref a1), .val (.ref a2), .val (.ref a3), .val (.int p4), .val (.double d5), .second] [(.double d5), (.ref a1)])) rfl rfl (hb hby d1_22)
  refine own_go st11 ?_
  have G11 : Fld Z h11 a1 "com/example/glossyn/glossyn/search/Candidates" "averageLength" "D" (.double d5) := F9.same W11
  have N11 := Fr.snoc X11 N8 H6
  have F12 : Keep h0 h11 [a1] := ((((K0.wr W2 (Or.inl (List.mem_of_getElem? (i := 0) rfl))).wr W5 (Or.inl (List.mem_of_getElem? (i := 0) rfl))).wr W8 (Or.inl (List.mem_of_getElem? (i := 0) rfl))).wr W11 (Or.inl (List.mem_of_getElem? (i := 0) rfl)))
  have F13 : Fld Z h11 a1 "com/example/glossyn/glossyn/search/Candidates" "documents" "[I" (.ref a2) := (((G2.other W5 (Or.inr (slot_ne (Or.inr (hw _ (List.mem_of_getElem? (i := 12) rfl))) (Or.inr (hw _ (List.mem_of_getElem? (i := 14) rfl))) (by decide) (t := (.array .int)) (t' := (.array .int)) (by decide) (by decide)))).other W8 (Or.inr (slot_ne (Or.inr (hw _ (List.mem_of_getElem? (i := 12) rfl))) (Or.inr (hw _ (List.mem_of_getElem? (i := 16) rfl))) (by decide) (t := (.array .int)) (t' := .int) (by decide) (by decide)))).other W11 (Or.inr (slot_ne (Or.inr (hw _ (List.mem_of_getElem? (i := 12) rfl))) (Or.inr (hw _ (List.mem_of_getElem? (i := 18) rfl))) (by decide) (t := (.array .int)) (t' := .double) (by decide) (by decide))))
  subst hΦ
  exact own_retV X11 hx Bd.returns hlk (hb hby d1_25) e11 ⟨rfl, N11, F12, F13⟩ (by decide) (by decide)
theorem d3_0 : decode prog_22_method_1_code 0 = .ok (.aload_n 0, 1) := by decide +kernel
theorem d3_1 : decode prog_22_method_1_code 1 = .ok (.invokespecial 1, 3) := by decide +kernel
theorem d3_4 : decode prog_22_method_1_code 4 = .ok (.aload_n 0, 1) := by decide +kernel
theorem d3_5 : decode prog_22_method_1_code 5 = .ok (.aload_n 1, 1) := by decide +kernel
theorem d3_6 : decode prog_22_method_1_code 6 = .ok (.putfield 7, 3) := by decide +kernel
theorem d3_9 : decode prog_22_method_1_code 9 = .ok (.aload_n 0, 1) := by decide +kernel
theorem d3_10 : decode prog_22_method_1_code 10 = .ok (.aload_n 2, 1) := by decide +kernel
theorem d3_11 : decode prog_22_method_1_code 11 = .ok (.putfield 13, 3) := by decide +kernel
theorem d3_14 : decode prog_22_method_1_code 14 = .ok (.aload_n 0, 1) := by decide +kernel
theorem d3_15 : decode prog_22_method_1_code 15 = .ok (.iload_n 3, 1) := by decide +kernel
theorem d3_16 : decode prog_22_method_1_code 16 = .ok (.putfield 16, 3) := by decide +kernel
theorem d3_19 : decode prog_22_method_1_code 19 = .ok (.return_, 1) := by decide +kernel
theorem pn_c3 : plainName "com/example/glossyn/glossyn/index/Postings" = true := by first | (simp [plainName, overriddenIn]; done) | decide +kernel
theorem ef_3_RRRI (m : MethodId) (x0 : Addr) (x1 : Addr) (x2 : Addr) (x3 : Int32) : entryFrame m #[(.ref x0), (.ref x1), (.ref x2), (.int x3)] 4 = mkF m 0 #[.val (.ref x0), .val (.ref x1), .val (.ref x2), .val (.int x3)] [] := by first | (simp [entryFrame, mkF, argsToLocals, Value.category]; done) | rfl
set_option maxRecDepth 65536 in
set_option maxHeartbeats 40000000 in
theorem rm_po (l : Launch) (Z : State) (a0 : Array Value) (hw : ∀ d ∈ tables_1, d.before a0 Z = true) (a1 : Addr) (a2 : Addr) (a3 : Addr) (p4 : Int32) (h0 : Heap) (n0 : Nat) (H1 : Exa Z h0 a1 "com/example/glossyn/glossyn/index/Postings") (H2 : Fld Z h0 a1 "com/example/glossyn/glossyn/index/Postings" "documents" "[I" .null) (H3 : Fld Z h0 a1 "com/example/glossyn/glossyn/index/Postings" "frequencies" "[I" .null) (H4 : Fld Z h0 a1 "com/example/glossyn/glossyn/index/Postings" "size" "I" (.int (0 : Int32))) (H5 : n0 ≤ a1) :
    own_Met l Z (⟨"com/example/glossyn/glossyn/index/Postings", "<init>", "([I[II)V"⟩ : MethodName) prog_22_method_1_code 4 none ({ frames := 1, cells := 0, slots := 0, locals := 12 } : Room) #[(.ref a1), (.ref a2), (.ref a3), (.int p4)] h0 (fun v h L => v = none ∧ Fr n0 L ∧ Keep h0 h [a1] ∧ Fld Z h a1 "com/example/glossyn/glossyn/index/Postings" "documents" "[I" (.ref a2) ∧ Fld Z h a1 "com/example/glossyn/glossyn/index/Postings" "size" "I" (.int p4)) := by
  intro ws
  refine MetFree.of_bodySF (plainFor_of_name pn_c3) hisR ?_
  intro p e s m args below meth c s₁ Bd hml0 hP hK
  obtain ⟨rfl, hZ, hh⟩ := hP
  have hx := Bd.exec
  have hby := Bd.bytes
  have hml : c.maxLocals = 4 := hml0
  have hown : s.vm.findClass "com/example/glossyn/glossyn/index/Postings" = some m.cls := findClass_of_methodNamed Bd.named
  have hnm := (name_of_methodNamed Bd.named Bd.method).1
  have hlk : meth.locks = false := Bd.notSynchronized
  have X0 : Stand p l e ({ frames := 1, cells := 0, slots := 0, locals := 12 } : Room) s m #[(.ref a1), (.ref a2), (.ref a3), (.int p4)] below meth c s₁ [] 0 0 := Stand.of_body Bd
  have e0 : s₁.heap = h0 := by rw [← hh, Bd.state]; rfl
  have N0 := Fr.nil n0
  refine own_body (Q := fun v h L => v = none ∧ Fr n0 L ∧ Keep h0 h [a1] ∧ Fld Z h a1 "com/example/glossyn/glossyn/index/Postings" "documents" "[I" (.ref a2) ∧ Fld Z h a1 "com/example/glossyn/glossyn/index/Postings" "size" "I" (.int p4)) ?_
  generalize hΦ : own_Fin s below _ _ _ = Φ
  refine own_cast (ef_3_RRRI m a1 a2 a3 p4) ?_
  have K0 := Keep.refl h0 [a1]
  show own_Run p e below Φ (s₁.setTop (mkF m 0 #[.val (.ref a1), .val (.ref a2), .val (.ref a3), .val (.int p4)] []))
  refine own_go (fun t k => XS.aloadN X0.here hx rfl (hb hby d3_0) rfl rfl  k) ?_
  obtain ⟨T1, X1, e1, st1⟩ := initO X0 hx hZ hown (hw _ (List.mem_of_getElem? (i := 25) rfl)) (hw _ (List.mem_of_getElem? (i := 9) rfl)) (hw _ (List.mem_of_getElem? (i := 10) rfl)) e0 (g := (mkF m 1 #[.val (.ref a1), .val (.ref a2), .val (.ref a3), .val (.int p4)] [(.ref a1)])) rfl (by rw [hml]; rfl) rfl (hb hby d3_1) (by decide) (W := 0) (by show 2 * 0 + _ ≤ _; exact Nat.le_of_eq rfl) (by decide)
  refine own_go st1 ?_
  refine own_go (fun t k => XS.aloadN X1.here hx rfl (hb hby d3_4) rfl rfl  k) ?_
  refine own_go (fun t k => XS.aloadN X1.here hx rfl (hb hby d3_5) rfl rfl  k) ?_
  obtain ⟨T2, h2, X2, e2, W2, st2⟩ := putF X1 hx hZ hown (host := "") (Or.inl (hw _ (List.mem_of_getElem? (i := 26) rfl))) Via.refl e1 H2 H1 (Or.inr ⟨(hw _ (List.mem_of_getElem? (i := 27) rfl)), rfl, hnm⟩) (hw _ (List.mem_of_getElem? (i := 20) rfl)) (ty := (.array .int)) (by decide) rfl rfl (g := (mkF m 6 #[.val (.ref a1), .val (.ref a2), .val (.ref a3), .val (.int p4)] [(.ref a2), (.ref a1)])) rfl rfl (hb hby d3_6)
  refine own_go st2 ?_
  have G2 : Fld Z h2 a1 "com/example/glossyn/glossyn/index/Postings" "documents" "[I" (.ref a2) := H2.same W2
  have N2 := Fr.snoc X2 N0 H5
  show own_Run p e below Φ (T2.setTop (mkF m 9 #[.val (.ref a1), .val (.ref a2), .val (.ref a3), .val (.int p4)] []))
  refine own_go (fun t k => XS.aloadN X2.here hx rfl (hb hby d3_9) rfl rfl  k) ?_
  refine own_go (fun t k => XS.aloadN X2.here hx rfl (hb hby d3_10) rfl rfl  k) ?_
  have F3 : Fld Z h2 a1 "com/example/glossyn/glossyn/index/Postings" "frequencies" "[I" .null := (H3.other W2 (Or.inr (slot_ne (Or.inr (hw _ (List.mem_of_getElem? (i := 29) rfl))) (Or.inr (hw _ (List.mem_of_getElem? (i := 27) rfl))) (by decide) (t := (.array .int)) (t' := (.array .int)) (by decide) (by decide))))
  have F4 : Exa Z h2 a1 "com/example/glossyn/glossyn/index/Postings" := (H1.wr W2)
  obtain ⟨T5, h5, X5, e5, W5, st5⟩ := putF X2 hx hZ hown (host := "") (Or.inl (hw _ (List.mem_of_getElem? (i := 28) rfl))) Via.refl e2 F3 F4 (Or.inr ⟨(hw _ (List.mem_of_getElem? (i := 29) rfl)), rfl, hnm⟩) (hw _ (List.mem_of_getElem? (i := 20) rfl)) (ty := (.array .int)) (by decide) rfl rfl (g := (mkF m 11 #[.val (.ref a1), .val (.ref a2), .val (.ref a3), .val (.int p4)] [(.ref a3), (.ref a1)])) rfl rfl (hb hby d3_11)
  refine own_go st5 ?_
  have G5 : Fld Z h5 a1 "com/example/glossyn/glossyn/index/Postings" "frequencies" "[I" (.ref a3) := F3.same W5
  have N5 := Fr.snoc X5 N2 H5
  refine own_go (fun t k => XS.aloadN X5.here hx rfl (hb hby d3_14) rfl rfl  k) ?_
  refine own_go (fun t k => XS.iloadN X5.here hx rfl (hb hby d3_15) rfl  k) ?_
  show own_Run p e below Φ (T5.setTop (mkF m 16 #[.val (.ref a1), .val (.ref a2), .val (.ref a3), .val (.int p4)] [(.int p4), (.ref a1)]))
  have F6 : Fld Z h5 a1 "com/example/glossyn/glossyn/index/Postings" "size" "I" (.int (0 : Int32)) := ((H4.other W2 (Or.inr (slot_ne (Or.inr (hw _ (List.mem_of_getElem? (i := 31) rfl))) (Or.inr (hw _ (List.mem_of_getElem? (i := 27) rfl))) (by decide) (t := .int) (t' := (.array .int)) (by decide) (by decide)))).other W5 (Or.inr (slot_ne (Or.inr (hw _ (List.mem_of_getElem? (i := 31) rfl))) (Or.inr (hw _ (List.mem_of_getElem? (i := 29) rfl))) (by decide) (t := .int) (t' := (.array .int)) (by decide) (by decide))))
  have F7 : Exa Z h5 a1 "com/example/glossyn/glossyn/index/Postings" := (F4.wr W5)
  obtain ⟨T8, h8, X8, e8, W8, st8⟩ := putF X5 hx hZ hown (host := "") (Or.inl (hw _ (List.mem_of_getElem? (i := 30) rfl))) Via.refl e5 F6 F7 (Or.inr ⟨(hw _ (List.mem_of_getElem? (i := 31) rfl)), rfl, hnm⟩) (hw _ (List.mem_of_getElem? (i := 20) rfl)) (ty := .int) (by decide) rfl rfl (g := (mkF m 16 #[.val (.ref a1), .val (.ref a2), .val (.ref a3), .val (.int p4)] [(.int p4), (.ref a1)])) rfl rfl (hb hby d3_16)
  refine own_go st8 ?_
  have G8 : Fld Z h8 a1 "com/example/glossyn/glossyn/index/Postings" "size" "I" (.int p4) := F6.same W8
  have N8 := Fr.snoc X8 N5 H5
  have F9 : Keep h0 h8 [a1] := (((K0.wr W2 (Or.inl (List.mem_of_getElem? (i := 0) rfl))).wr W5 (Or.inl (List.mem_of_getElem? (i := 0) rfl))).wr W8 (Or.inl (List.mem_of_getElem? (i := 0) rfl)))
  have F10 : Fld Z h8 a1 "com/example/glossyn/glossyn/index/Postings" "documents" "[I" (.ref a2) := ((G2.other W5 (Or.inr (slot_ne (Or.inr (hw _ (List.mem_of_getElem? (i := 27) rfl))) (Or.inr (hw _ (List.mem_of_getElem? (i := 29) rfl))) (by decide) (t := (.array .int)) (t' := (.array .int)) (by decide) (by decide)))).other W8 (Or.inr (slot_ne (Or.inr (hw _ (List.mem_of_getElem? (i := 27) rfl))) (Or.inr (hw _ (List.mem_of_getElem? (i := 31) rfl))) (by decide) (t := (.array .int)) (t' := .int) (by decide) (by decide))))
  subst hΦ
  exact own_retV X8 hx Bd.returns hlk (hb hby d3_19) e8 ⟨rfl, N8, F9, F10, G8⟩ (by decide) (by decide)
theorem d5_0 : decode prog_22_method_3_code 0 = .ok (.aload_n 0, 1) := by decide +kernel
theorem d5_1 : decode prog_22_method_3_code 1 = .ok (.getfield 16, 3) := by decide +kernel
theorem d5_4 : decode prog_22_method_3_code 4 = .ok (.ireturn, 1) := by decide +kernel
theorem ef_5_R (m : MethodId) (x0 : Addr) : entryFrame m #[(.ref x0)] 1 = mkF m 0 #[.val (.ref x0)] [] := by first | (simp [entryFrame, mkF, argsToLocals, Value.category]; done) | rfl
set_option maxRecDepth 65536 in
set_option maxHeartbeats 40000000 in
theorem rm_sz (l : Launch) (Z : State) (a0 : Array Value) (hw : ∀ d ∈ tables_1, d.before a0 Z = true) (a1 : Addr) (p2 : Int32) (h0 : Heap) (n0 : Nat) (H1 : Fld Z h0 a1 "com/example/glossyn/glossyn/index/Postings" "size" "I" (.int p2)) :
    own_Met l Z (⟨"com/example/glossyn/glossyn/index/Postings", "size", "()I"⟩ : MethodName) prog_22_method_3_code 1 (some .int) ({ frames := 0, cells := 0, slots := 0, locals := 0 } : Room) #[(.ref a1)] h0 (fun v h L => v = some (.int p2) ∧ Fr n0 L ∧ h = h0) := by
  intro ws
  refine MetFree.of_bodySF (plainFor_of_name pn_c3) hisR ?_
  intro p e s m args below meth c s₁ Bd hml0 hP hK
  obtain ⟨rfl, hZ, hh⟩ := hP
  have hx := Bd.exec
  have hby := Bd.bytes
  have hml : c.maxLocals = 1 := hml0
  have hown : s.vm.findClass "com/example/glossyn/glossyn/index/Postings" = some m.cls := findClass_of_methodNamed Bd.named
  have hnm := (name_of_methodNamed Bd.named Bd.method).1
  have hlk : meth.locks = false := Bd.notSynchronized
  have X0 : Stand p l e ({ frames := 0, cells := 0, slots := 0, locals := 0 } : Room) s m #[(.ref a1)] below meth c s₁ [] 0 0 := Stand.of_body Bd
  have e0 : s₁.heap = h0 := by rw [← hh, Bd.state]; rfl
  have N0 := Fr.nil n0
  refine own_body (Q := fun v h L => v = some (.int p2) ∧ Fr n0 L ∧ h = h0) ?_
  generalize hΦ : own_Fin s below _ _ _ = Φ
  refine own_cast (ef_5_R m a1) ?_
  show own_Run p e below Φ (s₁.setTop (mkF m 0 #[.val (.ref a1)] []))
  refine own_go (fun t k => XS.aloadN X0.here hx rfl (hb hby d5_0) rfl rfl  k) ?_
  obtain ⟨T1, X1, e1, st1⟩ := getF X0 hx hZ hown (host := "") (Or.inl (hw _ (List.mem_of_getElem? (i := 30) rfl))) Via.refl e0 H1 (g := (mkF m 1 #[.val (.ref a1)] [(.ref a1)])) rfl rfl (hb hby d5_1)
  refine own_go st1 ?_
  subst hΦ
  exact own_retI X1 hx Bd.returns hlk (hb hby d5_4) e1 ⟨rfl, N0, rfl⟩ (by decide) (by decide)
theorem d6_0 : decode prog_22_method_4_code 0 = .ok (.aload_n 0, 1) := by decide +kernel
theorem d6_1 : decode prog_22_method_4_code 1 = .ok (.getfield 7, 3) := by decide +kernel
theorem d6_4 : decode prog_22_method_4_code 4 = .ok (.iload_n 1, 1) := by decide +kernel
theorem d6_5 : decode prog_22_method_4_code 5 = .ok (.iaload, 1) := by decide +kernel
theorem d6_6 : decode prog_22_method_4_code 6 = .ok (.ireturn, 1) := by decide +kernel
theorem ef_6_RI (m : MethodId) (x0 : Addr) (x1 : Int32) : entryFrame m #[(.ref x0), (.int x1)] 2 = mkF m 0 #[.val (.ref x0), .val (.int x1)] [] := by first | (simp [entryFrame, mkF, argsToLocals, Value.category]; done) | rfl
set_option maxRecDepth 65536 in
set_option maxHeartbeats 40000000 in
theorem rm_do (l : Launch) (Z : State) (a0 : Array Value) (hw : ∀ d ∈ tables_1, d.before a0 Z = true) (a1 : Addr) (p2 : Int32) (a3 : Addr) (k3 : ClassId) (us : List Value) (x3 : Int32) (h0 : Heap) (n0 : Nat) (H1 : Fld Z h0 a1 "com/example/glossyn/glossyn/index/Postings" "documents" "[I" (.ref a3)) (H2 : Arv Z h0 a3 k3 .int (5 : Int32) us (.int (0 : Int32))) (hb_ : ¬ p2 < 0 ∧ p2 < (5 : Int32)) (hv_ : us.getD p2.toNatClampNeg (.int (0 : Int32)) = .int x3) :
    own_Met l Z (⟨"com/example/glossyn/glossyn/index/Postings", "document", "(I)I"⟩ : MethodName) prog_22_method_4_code 2 (some .int) ({ frames := 0, cells := 0, slots := 0, locals := 0 } : Room) #[(.ref a1), (.int p2)] h0 (fun v h L => v = some (.int x3) ∧ Fr n0 L ∧ h = h0) := by
  intro ws
  refine MetFree.of_bodySF (plainFor_of_name pn_c3) hisR ?_
  intro p e s m args below meth c s₁ Bd hml0 hP hK
  obtain ⟨rfl, hZ, hh⟩ := hP
  have hx := Bd.exec
  have hby := Bd.bytes
  have hml : c.maxLocals = 2 := hml0
  have hown : s.vm.findClass "com/example/glossyn/glossyn/index/Postings" = some m.cls := findClass_of_methodNamed Bd.named
  have hnm := (name_of_methodNamed Bd.named Bd.method).1
  have hlk : meth.locks = false := Bd.notSynchronized
  have X0 : Stand p l e ({ frames := 0, cells := 0, slots := 0, locals := 0 } : Room) s m #[(.ref a1), (.int p2)] below meth c s₁ [] 0 0 := Stand.of_body Bd
  have e0 : s₁.heap = h0 := by rw [← hh, Bd.state]; rfl
  have N0 := Fr.nil n0
  refine own_body (Q := fun v h L => v = some (.int x3) ∧ Fr n0 L ∧ h = h0) ?_
  generalize hΦ : own_Fin s below _ _ _ = Φ
  refine own_cast (ef_6_RI m a1 p2) ?_
  show own_Run p e below Φ (s₁.setTop (mkF m 0 #[.val (.ref a1), .val (.int p2)] []))
  refine own_go (fun t k => XS.aloadN X0.here hx rfl (hb hby d6_0) rfl rfl  k) ?_
  obtain ⟨T1, X1, e1, st1⟩ := getF X0 hx hZ hown (host := "") (Or.inl (hw _ (List.mem_of_getElem? (i := 26) rfl))) Via.refl e0 H1 (g := (mkF m 1 #[.val (.ref a1), .val (.int p2)] [(.ref a1)])) rfl rfl (hb hby d6_1)
  refine own_go st1 ?_
  refine own_go (fun t k => XS.iloadN X1.here hx rfl (hb hby d6_4) rfl  k) ?_
  refine own_iaload X1 hx hZ e1 H2 (j := p2) (v := (.int x3)) hb_ hv_ (g := (mkF m 5 #[.val (.ref a1), .val (.int p2)] [(.int p2), (.ref a3)])) rfl rfl (hb hby d6_5) ?_
  subst hΦ
  exact own_retI X1 hx Bd.returns hlk (hb hby d6_6) e1 ⟨rfl, N0, rfl⟩ (by decide) (by decide)
theorem d7_0 : decode method_2_code 0 = .ok (.iload_n 3, 1) := by decide +kernel
theorem d7_1 : decode method_2_code 1 = .ok (.iload_n 2, 1) := by decide +kernel
theorem d7_2 : decode method_2_code 2 = .ok (.if_icmp .lt 5, 3) := by decide +kernel
theorem d7_5 : decode method_2_code 5 = .ok (.iconst 1, 1) := by decide +kernel
theorem d7_6 : decode method_2_code 6 = .ok (.ireturn, 1) := by decide +kernel
theorem d7_7 : decode method_2_code 7 = .ok (.aload_n 0, 1) := by decide +kernel
theorem d7_8 : decode method_2_code 8 = .ok (.iload_n 3, 1) := by decide +kernel
theorem d7_9 : decode method_2_code 9 = .ok (.iaload, 1) := by decide +kernel
theorem d7_10 : decode method_2_code 10 = .ok (.aload_n 1, 1) := by decide +kernel
theorem d7_11 : decode method_2_code 11 = .ok (.iload_n 3, 1) := by decide +kernel
theorem d7_12 : decode method_2_code 12 = .ok (.iaload, 1) := by decide +kernel
theorem d7_13 : decode method_2_code 13 = .ok (.if_icmp .ne 7, 3) := by decide +kernel
theorem d7_16 : decode method_2_code 16 = .ok (.iconst 1, 1) := by decide +kernel
theorem d7_17 : decode method_2_code 17 = .ok (.goto 4, 3) := by decide +kernel
theorem d7_21 : decode method_2_code 21 = .ok (.ireturn, 1) := by decide +kernel
theorem pn_c0 : plainName "com/example/glossyn/glossyn/search/CandidatesPlacesOfPinLaw" = true := by first | (simp [plainName, overriddenIn]; done) | decide +kernel
theorem ef_7_RRII (m : MethodId) (x0 : Addr) (x1 : Addr) (x2 : Int32) (x3 : Int32) : entryFrame m #[(.ref x0), (.ref x1), (.int x2), (.int x3)] 4 = mkF m 0 #[.val (.ref x0), .val (.ref x1), .val (.int x2), .val (.int x3)] [] := by first | (simp [entryFrame, mkF, argsToLocals, Value.category]; done) | rfl
set_option maxRecDepth 65536 in
set_option maxHeartbeats 40000000 in
theorem rm_at (l : Launch) (Z : State) (a0 : Array Value) (hw : ∀ d ∈ tables_1, d.before a0 Z = true) (a1 : Addr) (a2 : Addr) (p3 : Int32) (p4 : Int32) (k1 : ClassId) (rs : List Value) (k2 : ClassId) (es : List Value) (h0 : Heap) (n0 : Nat) (H1 : Arv Z h0 a1 k1 .int p3 rs (.int (0 : Int32))) (H2 : Arv Z h0 a2 k2 .int (5 : Int32) es (.int (0 : Int32))) (h0_ : ¬ p4 < 0 ∧ p4 < (5 : Int32)) (hr_ : p4 < p3 → rs.getD p4.toNatClampNeg (.int (0 : Int32)) = es.getD p4.toNatClampNeg (.int (0 : Int32)) ∧ ∃ z, es.getD p4.toNatClampNeg (.int (0 : Int32)) = .int z) :
    own_Met l Z (⟨"com/example/glossyn/glossyn/search/CandidatesPlacesOfPinLaw", "at", "([I[III)Z"⟩ : MethodName) method_2_code 4 (some .boolean) ({ frames := 0, cells := 0, slots := 0, locals := 0 } : Room) #[(.ref a1), (.ref a2), (.int p3), (.int p4)] h0 (fun v h L => v = some (.int (1 : Int32)) ∧ Fr n0 L ∧ h = h0) := by
  intro ws
  refine MetFree.of_bodySF (plainFor_of_name pn_c0) hisR ?_
  intro p e s m args below meth c s₁ Bd hml0 hP hK
  obtain ⟨rfl, hZ, hh⟩ := hP
  have hx := Bd.exec
  have hby := Bd.bytes
  have hml : c.maxLocals = 4 := hml0
  have hown : s.vm.findClass "com/example/glossyn/glossyn/search/CandidatesPlacesOfPinLaw" = some m.cls := findClass_of_methodNamed Bd.named
  have hnm := (name_of_methodNamed Bd.named Bd.method).1
  have hlk : meth.locks = false := Bd.notSynchronized
  have X0 : Stand p l e ({ frames := 0, cells := 0, slots := 0, locals := 0 } : Room) s m #[(.ref a1), (.ref a2), (.int p3), (.int p4)] below meth c s₁ [] 0 0 := Stand.of_body Bd
  have e0 : s₁.heap = h0 := by rw [← hh, Bd.state]; rfl
  have N0 := Fr.nil n0
  refine own_body (Q := fun v h L => v = some (.int (1 : Int32)) ∧ Fr n0 L ∧ h = h0) ?_
  generalize hΦ : own_Fin s below _ _ _ = Φ
  refine own_cast (ef_7_RRII m a1 a2 p3 p4) ?_
  show own_Run p e below Φ (s₁.setTop (mkF m 0 #[.val (.ref a1), .val (.ref a2), .val (.int p3), .val (.int p4)] []))
  refine own_go (fun t k => XS.iloadN X0.here hx rfl (hb hby d7_0) rfl  k) ?_
  refine own_go (fun t k => XS.iloadN X0.here hx rfl (hb hby d7_1) rfl  k) ?_
  by_cases hc2 : p4 < p3
  · refine own_go (fun t k => XS.icmpYes X0.here hx rfl (pc0 := 2) (pc' := 7) rfl (hb hby d7_2) rfl (tlt hc2).1 (by decide) (by decide) k) ?_
    show own_Run p e below Φ (s₁.setTop (mkF m 7 #[.val (.ref a1), .val (.ref a2), .val (.int p3), .val (.int p4)] []))
    obtain ⟨q1_, z_, q2_⟩ := hr_ hc2
    show own_Run p e below Φ (s₁.setTop (mkF m 7 #[.val (.ref a1), .val (.ref a2), .val (.int p3), .val (.int p4)] []))
    refine own_go (fun t k => XS.aloadN X0.here hx rfl (hb hby d7_7) rfl rfl  k) ?_
    refine own_go (fun t k => XS.iloadN X0.here hx rfl (hb hby d7_8) rfl  k) ?_
    refine own_iaload X0 hx hZ e0 H1 (j := p4) (v := (.int z_)) ⟨h0_.1, hc2⟩ (q1_.trans q2_) (g := (mkF m 9 #[.val (.ref a1), .val (.ref a2), .val (.int p3), .val (.int p4)] [(.int p4), (.ref a1)])) rfl rfl (hb hby d7_9) ?_
    refine own_go (fun t k => XS.aloadN X0.here hx rfl (hb hby d7_10) rfl rfl  k) ?_
    refine own_go (fun t k => XS.iloadN X0.here hx rfl (hb hby d7_11) rfl  k) ?_
    show own_Run p e below Φ (s₁.setTop (mkF m 12 #[.val (.ref a1), .val (.ref a2), .val (.int p3), .val (.int p4)] [(.int p4), (.ref a2), (.int z_)]))
    refine own_iaload X0 hx hZ e0 H2 (j := p4) (v := (.int z_)) h0_ q2_ (g := (mkF m 12 #[.val (.ref a1), .val (.ref a2), .val (.int p3), .val (.int p4)] [(.int p4), (.ref a2), (.int z_)])) rfl rfl (hb hby d7_12) ?_
    refine own_go (fun t k => XS.icmpNo X0.here hx rfl (hb hby d7_13) rfl (teq (rfl : z_ = z_)).2 k) ?_
    refine own_go (fun t k => XS.iconst X0.here hx rfl (hb hby d7_16) k) ?_
    refine own_go (fun t k => XS.goto X0.here hx rfl (pc0 := 17) (pc' := 21) rfl (hb hby d7_17) (by decide) (by decide) k) ?_
    subst hΦ
    exact own_retN X0 hx (t := .boolean) Bd.returns (by simp) hlk (hb hby d7_21) e0 ⟨rfl, N0, rfl⟩ (by decide) (by decide)
  · refine own_go (fun t k => XS.icmpNo X0.here hx rfl (hb hby d7_2) rfl (flt hc2).1 k) ?_
    show own_Run p e below Φ (s₁.setTop (mkF m 5 #[.val (.ref a1), .val (.ref a2), .val (.int p3), .val (.int p4)] []))
    refine own_go (fun t k => XS.iconst X0.here hx rfl (hb hby d7_5) k) ?_
    subst hΦ
    exact own_retN X0 hx (t := .boolean) Bd.returns (by simp) hlk (hb hby d7_6) e0 ⟨rfl, N0, rfl⟩ (by decide) (by decide)
theorem own_ix {i : Int32} {n : Nat} (h : i.toInt = n) (h5 : n < 5) : ¬ i < 0 ∧ i < (5 : Int32) := by
  simp only [Int32.lt_iff_toInt_lt, Int32.reduceToInt]; omega
theorem own_nat {i : Int32} {n : Nat} (h : i.toInt = n) : i.toNatClampNeg = n := by simp only [Int32.toNatClampNeg, h]; omega
theorem own_inc {i : Int32} {n : Nat} (h : i.toInt = n) (h5 : n < 100) : (i + (1 : Int32)).toInt = ((n + 1 : Nat) : Int) := by
  have s := c_iadd i (1 : Int32); have r := rng32 (i + (1 : Int32)); simp only [Int32.reduceToInt] at s; omega
theorem own_ofn {i : Int32} {n : Nat} (h : i.toInt = n) : i = Int32.ofInt (n : Int) := by rw [← h]; exact (Int32.ofInt_toInt i).symm
theorem own_rst {i c : Int32} {iN cN t : Nat} {rs es : List Value} (hi : i.toInt = iN) (hc : c.toInt = cN) (hl : iN < rs.length) (he : es.getD iN (.int (0 : Int32)) = .int (Int32.ofInt (t : Int))) (ht : cN = t) (h : ∀ j, j < iN → rs.getD j (.int (0 : Int32)) = es.getD j (.int (0 : Int32))) : ∀ j, j < iN + 1 → (rs.set i.toNatClampNeg (.int c)).getD j (.int (0 : Int32)) = es.getD j (.int (0 : Int32)) := by
  intro j hj
  rw [own_nat hi, own_get hl]
  by_cases q : iN = j
  · subst q; rw [if_pos rfl, he, own_ofn hc, ht]
  · rw [if_neg q]; exact h j (by omega)
theorem d4_0 : decode prog_31_method_4_code 0 = .ok (.aload_n 1, 1) := by decide +kernel
theorem d4_1 : decode prog_31_method_4_code 1 = .ok (.invokevirtual 24, 3) := by decide +kernel
theorem d4_4 : decode prog_31_method_4_code 4 = .ok (.newarray .int, 2) := by decide +kernel
theorem d4_6 : decode prog_31_method_4_code 6 = .ok (.astore_n 2, 1) := by decide +kernel
theorem d4_7 : decode prog_31_method_4_code 7 = .ok (.iconst 0, 1) := by decide +kernel
theorem d4_8 : decode prog_31_method_4_code 8 = .ok (.istore_n 3, 1) := by decide +kernel
theorem d4_9 : decode prog_31_method_4_code 9 = .ok (.iconst 0, 1) := by decide +kernel
theorem d4_10 : decode prog_31_method_4_code 10 = .ok (.istore 4, 2) := by decide +kernel
theorem d4_12 : decode prog_31_method_4_code 12 = .ok (.iload 4, 2) := by decide +kernel
theorem d4_14 : decode prog_31_method_4_code 14 = .ok (.aload_n 2, 1) := by decide +kernel
theorem d4_15 : decode prog_31_method_4_code 15 = .ok (.arraylength, 1) := by decide +kernel
theorem d4_16 : decode prog_31_method_4_code 16 = .ok (.if_icmp .ge 35, 3) := by decide +kernel
theorem d4_19 : decode prog_31_method_4_code 19 = .ok (.aload_n 0, 1) := by decide +kernel
theorem d4_20 : decode prog_31_method_4_code 20 = .ok (.getfield 7, 3) := by decide +kernel
theorem d4_23 : decode prog_31_method_4_code 23 = .ok (.iload_n 3, 1) := by decide +kernel
theorem d4_24 : decode prog_31_method_4_code 24 = .ok (.iaload, 1) := by decide +kernel
theorem d4_25 : decode prog_31_method_4_code 25 = .ok (.aload_n 1, 1) := by decide +kernel
theorem d4_26 : decode prog_31_method_4_code 26 = .ok (.iload 4, 2) := by decide +kernel
theorem d4_28 : decode prog_31_method_4_code 28 = .ok (.invokevirtual 30, 3) := by decide +kernel
theorem d4_31 : decode prog_31_method_4_code 31 = .ok (.if_icmp .eq 9, 3) := by decide +kernel
theorem d4_34 : decode prog_31_method_4_code 34 = .ok (.iinc 3 1, 3) := by decide +kernel
theorem d4_37 : decode prog_31_method_4_code 37 = .ok (.goto (-18), 3) := by decide +kernel
theorem d4_40 : decode prog_31_method_4_code 40 = .ok (.aload_n 2, 1) := by decide +kernel
theorem d4_41 : decode prog_31_method_4_code 41 = .ok (.iload 4, 2) := by decide +kernel
theorem d4_43 : decode prog_31_method_4_code 43 = .ok (.iload_n 3, 1) := by decide +kernel
theorem d4_44 : decode prog_31_method_4_code 44 = .ok (.iastore, 1) := by decide +kernel
theorem d4_45 : decode prog_31_method_4_code 45 = .ok (.iinc 4 1, 3) := by decide +kernel
theorem d4_48 : decode prog_31_method_4_code 48 = .ok (.goto (-36), 3) := by decide +kernel
theorem d4_51 : decode prog_31_method_4_code 51 = .ok (.aload_n 2, 1) := by decide +kernel
theorem d4_52 : decode prog_31_method_4_code 52 = .ok (.areturn, 1) := by decide +kernel
theorem pd_4 : parseMethodDescriptor "()I" = some ⟨[], some .int⟩ := by decide +kernel
theorem pd_5 : parseMethodDescriptor "(I)I" = some ⟨[.int], some .int⟩ := by decide +kernel
theorem ef_4_RR (m : MethodId) (x0 : Addr) (x1 : Addr) : entryFrame m #[(.ref x0), (.ref x1)] 5 = mkF m 0 #[.val (.ref x0), .val (.ref x1), .unset, .unset, .unset] [] := by first | (simp [entryFrame, mkF, argsToLocals, Value.category]; done) | rfl
set_option maxRecDepth 65536 in
set_option maxHeartbeats 40000000 in
theorem rm_pl (l : Launch) (Z : State) (a0 : Array Value) (hw : ∀ d ∈ tables_1, d.before a0 Z = true) (a1 : Addr) (a2 : Addr) (a3 : Addr) (k3 : ClassId) (a4 : Addr) (k4 : ClassId) (p5 : Int32) (us : List Value) (es : List Value) (kn : Nat) (sg : Nat → Nat) (x0 : Int32) (x1 : Int32) (x2 : Int32) (x3 : Int32) (x4 : Int32) (h0 : Heap) (n0 : Nat) (H1 : Fld Z h0 a1 "com/example/glossyn/glossyn/search/Candidates" "documents" "[I" (.ref a3)) (H2 : Exa Z h0 a2 "com/example/glossyn/glossyn/index/Postings") (H3 : Fld Z h0 a2 "com/example/glossyn/glossyn/index/Postings" "size" "I" (.int p5)) (H4 : Fld Z h0 a2 "com/example/glossyn/glossyn/index/Postings" "documents" "[I" (.ref a4)) (H5 : Arv Z h0 a3 k3 .int (5 : Int32) [(.int x0), (.int x1), (.int x2), (.int x3), (.int x4)] (.int (0 : Int32))) (H6 : Arv Z h0 a4 k4 .int (5 : Int32) us (.int (0 : Int32))) (H7 : n0 ≤ h0.size) (hI : own_I (own_d x0 x1 x2 x3 x4) 5 p5 us es kn sg) (hJ : ∀ i j : Nat, i < j → j < 5 → ¬ (own_d x0 x1 x2 x3 x4) i = (own_d x0 x1 x2 x3 x4) j) :
    own_Met l Z (⟨"com/example/glossyn/glossyn/search/Candidates", "placesOf", "(Lcom/example/glossyn/glossyn/index/Postings;)[I"⟩ : MethodName) prog_31_method_4_code 5 (some (.array .int)) ({ frames := 1, cells := 1, slots := 5, locals := 14 } : Room) #[(.ref a1), (.ref a2)] h0 (fun v h L => v = some (.ref h0.size) ∧ Fr n0 L ∧ Keep h0 h [] ∧ ∃ (k : ClassId) (rs : List Value), Arv Z h h0.size k .int p5 rs (.int (0 : Int32)) ∧ ∀ i, i < kn → rs.getD i (.int (0 : Int32)) = es.getD i (.int (0 : Int32))) := by
  intro ws
  refine MetFree.of_bodySF (plainFor_of_name pn_c1) hisR ?_
  intro p e s m args below meth c s₁ Bd hml0 hP hK
  obtain ⟨rfl, hZ, hh⟩ := hP
  have hx := Bd.exec
  have hby := Bd.bytes
  have hml : c.maxLocals = 5 := hml0
  have hown : s.vm.findClass "com/example/glossyn/glossyn/search/Candidates" = some m.cls := findClass_of_methodNamed Bd.named
  have hnm := (name_of_methodNamed Bd.named Bd.method).1
  have hlk : meth.locks = false := Bd.notSynchronized
  have X0 : Stand p l e ({ frames := 1, cells := 1, slots := 5, locals := 14 } : Room) s m #[(.ref a1), (.ref a2)] below meth c s₁ [] 0 0 := Stand.of_body Bd
  have e0 : s₁.heap = h0 := by rw [← hh, Bd.state]; rfl
  have N0 := Fr.nil n0
  refine own_body (Q := fun v h L => v = some (.ref h0.size) ∧ Fr n0 L ∧ Keep h0 h [] ∧ ∃ (k : ClassId) (rs : List Value), Arv Z h h0.size k .int p5 rs (.int (0 : Int32)) ∧ ∀ i, i < kn → rs.getD i (.int (0 : Int32)) = es.getD i (.int (0 : Int32))) ?_
  generalize hΦ : own_Fin s below _ _ _ = Φ
  refine own_cast (ef_4_RR m a1 a2) ?_
  have K0 := Keep.refl h0 []
  show own_Run p e below Φ (s₁.setTop (mkF m 0 #[.val (.ref a1), .val (.ref a2), .unset, .unset, .unset] []))
  obtain ⟨hk, hk5, ul, el, hsA, hsB⟩ := id hI
  show own_Run p e below Φ (s₁.setTop (mkF m 0 #[.val (.ref a1), .val (.ref a2), .unset, .unset, .unset] []))
  refine own_go (fun t k => XS.aloadN X0.here hx rfl (hb hby d4_0) rfl rfl  k) ?_
  refine own_callV X0 hx hZ (y := (⟨"com/example/glossyn/glossyn/index/Postings", "size", "()I"⟩ : MethodName)) (z := (⟨"com/example/glossyn/glossyn/index/Postings", "size", "()I"⟩ : MethodName)) (W := 0) (a := a2) (argsL := []) (rest := []) hown (hw _ (List.mem_of_getElem? (i := 37) rfl)) (hw _ (List.mem_of_getElem? (i := 38) rfl)) (notFace_of_selects (args := #[]) (mvT hZ (hw _ (List.mem_of_getElem? (i := 40) rfl)))) (hw _ (List.mem_of_getElem? (i := 40) rfl)) (hw _ (List.mem_of_getElem? (i := 39) rfl)) (by decide) (own_bk (rm_sz l Z a0 hw a2 p5 h0 n0 H3) hZ (hw _ (List.mem_of_getElem? (i := 41) rfl)) (hw _ (List.mem_of_getElem? (i := 21) rfl)) (by decide) (by decide)) e0 H2 (g := (mkF m 1 #[.val (.ref a1), .val (.ref a2), .unset, .unset, .unset] [(.ref a2)])) rfl (by rw [hml]; rfl) (lenOf pd_4 rfl) rfl (by show 2 * 0 + _ ≤ _; exact Nat.le_of_eq rfl) (hb hby d4_1) (by decide) (by decide) (fun v1 T1 h1 L1 X1 e1 q1 => ?_)
  obtain ⟨rfl, M1, s1⟩ := q1
  replace e1 : T1.heap = h0 := e1.trans s1
  have N1 := Fr.app N0 M1
  refine own_newP X1 hx hZ (hw _ (List.mem_of_getElem? (i := 1) rfl)) e1 (g := (mkF m 4 #[.val (.ref a1), .val (.ref a2), .unset, .unset, .unset] [(.int p5)])) rfl (hb hby d4_4) rfl (by rw [Int32.lt_iff_toInt_lt]; simp only [Int32.reduceToInt]; omega) 5 (by simp only [Int32.toNatClampNeg]; omega) (by decide) (by decide) (by decide) 5 (fun T2 h2 k2 b2 X2 e2 E2 g2 V2 => ?_)
  have ne_a1_b2 : a1 ≠ b2 := Nat.ne_of_lt (Nat.lt_of_lt_of_le H1.lt (Nat.le_of_eq g2.symm))
  have ne_a2_b2 : a2 ≠ b2 := Nat.ne_of_lt (Nat.lt_of_lt_of_le H2.lt (Nat.le_of_eq g2.symm))
  have ne_a3_b2 : a3 ≠ b2 := Nat.ne_of_lt (Nat.lt_of_lt_of_le H5.lt (Nat.le_of_eq g2.symm))
  have ne_a4_b2 : a4 ≠ b2 := Nat.ne_of_lt (Nat.lt_of_lt_of_le H6.lt (Nat.le_of_eq g2.symm))
  replace V2 : Arv Z h2 b2 k2 .int p5 [(.int (0 : Int32)), (.int (0 : Int32)), (.int (0 : Int32)), (.int (0 : Int32)), (.int (0 : Int32))] (.int (0 : Int32)) := V2
  refine own_go (fun t k => XS.astoreN X2.here hx rfl (hb hby d4_6) rfl rfl (l' := #[.val (.ref a1), .val (.ref a2), .val (.ref b2), .unset, .unset]) rfl k) ?_
  refine own_go (fun t k => XS.iconst X2.here hx rfl (hb hby d4_7) k) ?_
  show own_Run p e below Φ (T2.setTop (mkF m 8 #[.val (.ref a1), .val (.ref a2), .val (.ref b2), .unset, .unset] [(.int (0 : Int32))]))
  refine own_go (fun t k => XS.istoreN X2.here hx rfl (hb hby d4_8) rfl (l' := #[.val (.ref a1), .val (.ref a2), .val (.ref b2), .val (.int (0 : Int32)), .unset]) rfl k) ?_
  refine own_go (fun t k => XS.iconst X2.here hx rfl (hb hby d4_9) k) ?_
  refine own_go (fun t k => XS.istore X2.here hx rfl (hb hby d4_10) rfl (l' := #[.val (.ref a1), .val (.ref a2), .val (.ref b2), .val (.int (0 : Int32)), .val (.int (0 : Int32))]) rfl k) ?_
  show own_Run p e below Φ (T2.setTop (mkF m 12 #[.val (.ref a1), .val (.ref a2), .val (.ref b2), .val (.int (0 : Int32)), .val (.int (0 : Int32))] []))
  have J12_4 : ∀ (m_ : Nat), ∀ (cc : Int32) (ii : Int32) (iN : Nat) (cM : Nat) (rs : List Value) (T5 : State) (h5 : Heap) (l5 : List Loc) (c5 z5 : Nat), (Stand p l e ({ frames := 1, cells := 1, slots := 5, locals := 14 } : Room) s m #[(.ref a1), (.ref a2)] below meth c T5 l5 c5 z5) → (T5.heap = h5) → (Fr n0 l5) → (c5 ≤ 1) → (z5 ≤ 5) → (Fld Z h5 a1 "com/example/glossyn/glossyn/search/Candidates" "documents" "[I" (.ref a3)) → (Exa Z h5 a2 "com/example/glossyn/glossyn/index/Postings") → (Fld Z h5 a2 "com/example/glossyn/glossyn/index/Postings" "documents" "[I" (.ref a4)) → (Arv Z h5 a3 k3 .int (5 : Int32) [(.int x0), (.int x1), (.int x2), (.int x3), (.int x4)] (.int (0 : Int32))) → (Arv Z h5 a4 k4 .int (5 : Int32) us (.int (0 : Int32))) → (Keep h0 h5 []) → (n0 ≤ h5.size) → (Arv Z h5 b2 k2 .int p5 rs (.int (0 : Int32))) → (ii.toInt = iN) → (cc.toInt = cM) → (iN + m_ = kn) → (iN < kn → cM ≤ sg iN) → (rs.length = 5) → (∀ i, i < iN → rs.getD i (.int (0 : Int32)) = es.getD i (.int (0 : Int32))) → own_Run p e below Φ (T5.setTop (mkF m 12 #[.val (.ref a1), .val (.ref a2), .val (.ref b2), .val (.int cc), .val (.int ii)] [])) := by
    intro m_
    induction m_ with
    | zero =>
      intro cc ii iN cM rs T5 h5 l5 c5 z5 X5 e5 N5 hc5 hs5 F6 F7 F8 F9 F10 F11 F12 F13 hi_ hcc hm_ hcs hrl hrs
      show own_Run p e below Φ (T5.setTop (mkF m 12 #[.val (.ref a1), .val (.ref a2), .val (.ref b2), .val (.int cc), .val (.int ii)] []))
      refine own_go (fun t k => XS.iload X5.here hx rfl (hb hby d4_12) rfl  k) ?_
      refine own_go (fun t k => XS.aloadN X5.here hx rfl (hb hby d4_14) rfl rfl  k) ?_
      refine own_arrlen X5 hx hZ e5 F13 (g := (mkF m 15 #[.val (.ref a1), .val (.ref a2), .val (.ref b2), .val (.int cc), .val (.int ii)] [(.ref b2), (.int ii)])) rfl rfl (hb hby d4_15) ?_
      have hc16 : ¬ (ii < p5) := (by rw [Int32.lt_iff_toInt_lt, hk, hi_]; omega)
      refine own_go (fun t k => XS.icmpYes X5.here hx rfl (pc0 := 16) (pc' := 51) rfl (hb hby d4_16) rfl (flt hc16).2.1 (by decide) (by decide) k) ?_
      refine own_go (fun t k => XS.aloadN X5.here hx rfl (hb hby d4_51) rfl rfl  k) ?_
      show own_Run p e below Φ (T5.setTop (mkF m 52 #[.val (.ref a1), .val (.ref a2), .val (.ref b2), .val (.int cc), .val (.int ii)] [(.ref b2)]))
      subst hΦ
      exact own_retO X5 hx (t := (.array .int)) Bd.returns rfl (Or.inr (Or.inr (Or.inr (Or.inr ⟨rfl, rfl, rfl⟩)))) hlk (hb hby d4_52) e5 ⟨(by rw [g2]), N5, F11, ⟨_, rs, by rw [← g2]; exact F13, fun i hi => hrs i (by omega)⟩⟩ (Nat.le_trans hc5 (by decide)) (Nat.le_trans hs5 (by decide))
    | succ m_ ih12 =>
      intro cc ii iN cM rs T5 h5 l5 c5 z5 X5 e5 N5 hc5 hs5 F6 F7 F8 F9 F10 F11 F12 F13 hi_ hcc hm_ hcs hrl hrs
      show own_Run p e below Φ (T5.setTop (mkF m 12 #[.val (.ref a1), .val (.ref a2), .val (.ref b2), .val (.int cc), .val (.int ii)] []))
      refine own_go (fun t k => XS.iload X5.here hx rfl (hb hby d4_12) rfl  k) ?_
      refine own_go (fun t k => XS.aloadN X5.here hx rfl (hb hby d4_14) rfl rfl  k) ?_
      refine own_arrlen X5 hx hZ e5 F13 (g := (mkF m 15 #[.val (.ref a1), .val (.ref a2), .val (.ref b2), .val (.int cc), .val (.int ii)] [(.ref b2), (.int ii)])) rfl rfl (hb hby d4_15) ?_
      have hc16 : ii < p5 := (by rw [Int32.lt_iff_toInt_lt, hk, hi_]; omega)
      refine own_go (fun t k => XS.icmpNo X5.here hx rfl (hb hby d4_16) rfl (tlt hc16).2.1 k) ?_
      show own_Run p e below Φ (T5.setTop (mkF m 19 #[.val (.ref a1), .val (.ref a2), .val (.ref b2), .val (.int cc), .val (.int ii)] []))
      have J19_14 : ∀ (q : Nat), ∀ (cd : Int32) (cN : Nat) (T15 : State) (h15 : Heap) (l15 : List Loc) (c15 z15 : Nat), (Stand p l e ({ frames := 1, cells := 1, slots := 5, locals := 14 } : Room) s m #[(.ref a1), (.ref a2)] below meth c T15 l15 c15 z15) → (T15.heap = h15) → (Fr n0 l15) → (c15 ≤ 1) → (z15 ≤ 5) → (Fld Z h15 a1 "com/example/glossyn/glossyn/search/Candidates" "documents" "[I" (.ref a3)) → (Exa Z h15 a2 "com/example/glossyn/glossyn/index/Postings") → (Fld Z h15 a2 "com/example/glossyn/glossyn/index/Postings" "documents" "[I" (.ref a4)) → (Arv Z h15 a3 k3 .int (5 : Int32) [(.int x0), (.int x1), (.int x2), (.int x3), (.int x4)] (.int (0 : Int32))) → (Arv Z h15 a4 k4 .int (5 : Int32) us (.int (0 : Int32))) → (Keep h0 h15 []) → (n0 ≤ h15.size) → (Arv Z h15 b2 k2 .int p5 rs (.int (0 : Int32))) → (cd.toInt = cN) → (cN + q = sg iN) → own_Run p e below Φ (T15.setTop (mkF m 19 #[.val (.ref a1), .val (.ref a2), .val (.ref b2), .val (.int cd), .val (.int ii)] [])) := by
        intro q
        induction q with
        | zero =>
          intro cd cN T15 h15 l15 c15 z15 X15 e15 N15 hc15 hs15 F16 F17 F18 F19 F20 F21 F22 F23 hcd hq_
          show own_Run p e below Φ (T15.setTop (mkF m 19 #[.val (.ref a1), .val (.ref a2), .val (.ref b2), .val (.int cd), .val (.int ii)] []))
          refine own_go (fun t k => XS.aloadN X15.here hx rfl (hb hby d4_19) rfl rfl  k) ?_
          obtain ⟨T24, X24, e24, st24⟩ := getF X15 hx hZ hown (host := "") (Or.inl (hw _ (List.mem_of_getElem? (i := 11) rfl))) Via.refl e15 F16 (g := (mkF m 20 #[.val (.ref a1), .val (.ref a2), .val (.ref b2), .val (.int cd), .val (.int ii)] [(.ref a1)])) rfl rfl (hb hby d4_20)
          refine own_go st24 ?_
          refine own_go (fun t k => XS.iloadN X24.here hx rfl (hb hby d4_23) rfl  k) ?_
          refine own_iaload X24 hx hZ e24 F19 (j := cd) (v := (.int ((own_d x0 x1 x2 x3 x4) cN))) (own_ix hcd (by have := (hsA iN (by omega)).1; omega)) (by rw [own_nat hcd]; exact own_dv _ _ _ _ _ _ (by have := (hsA iN (by omega)).1; omega)) (g := (mkF m 24 #[.val (.ref a1), .val (.ref a2), .val (.ref b2), .val (.int cd), .val (.int ii)] [(.int cd), (.ref a3)])) rfl rfl (hb hby d4_24) ?_
          refine own_go (fun t k => XS.aloadN X24.here hx rfl (hb hby d4_25) rfl rfl  k) ?_
          show own_Run p e below Φ (T24.setTop (mkF m 26 #[.val (.ref a1), .val (.ref a2), .val (.ref b2), .val (.int cd), .val (.int ii)] [(.ref a2), (.int ((own_d x0 x1 x2 x3 x4) cN))]))
          refine own_go (fun t k => XS.iload X24.here hx rfl (hb hby d4_26) rfl  k) ?_
          refine own_callV X24 hx hZ (y := (⟨"com/example/glossyn/glossyn/index/Postings", "document", "(I)I"⟩ : MethodName)) (z := (⟨"com/example/glossyn/glossyn/index/Postings", "document", "(I)I"⟩ : MethodName)) (W := 1) (a := a2) (argsL := [(.int ii)]) (rest := [(.int ((own_d x0 x1 x2 x3 x4) cN))]) hown (hw _ (List.mem_of_getElem? (i := 42) rfl)) (hw _ (List.mem_of_getElem? (i := 43) rfl)) (notFace_of_selects (args := #[]) (mvT hZ (hw _ (List.mem_of_getElem? (i := 45) rfl)))) (hw _ (List.mem_of_getElem? (i := 45) rfl)) (hw _ (List.mem_of_getElem? (i := 44) rfl)) (by decide) (own_bk (rm_do l Z a0 hw a2 ii a4 k4 us ((own_d x0 x1 x2 x3 x4) (sg iN)) h15 n0 F18 F20 (own_ix hi_ (by omega : iN < 5)) (by rw [own_nat hi_]; exact (hsA iN (by omega)).2.1)) hZ (hw _ (List.mem_of_getElem? (i := 46) rfl)) (hw _ (List.mem_of_getElem? (i := 21) rfl)) (by decide) (by decide)) e24 F17 (g := (mkF m 28 #[.val (.ref a1), .val (.ref a2), .val (.ref b2), .val (.int cd), .val (.int ii)] [(.int ii), (.ref a2), (.int ((own_d x0 x1 x2 x3 x4) cN))])) rfl (by rw [hml]; rfl) (lenOf pd_5 rfl) rfl (by show 2 * 0 + _ ≤ _; exact Nat.le_of_eq rfl) (hb hby d4_28) (own_le hc15 (by decide)) (own_le hs15 (by decide)) (fun v25 T25 h25 L25 X25 e25 q25 => ?_)
          obtain ⟨rfl, M25, s25⟩ := q25
          replace e25 : T25.heap = h15 := e25.trans s25
          have N25 := Fr.app N15 M25
          have hc31 : ((own_d x0 x1 x2 x3 x4) cN) = ((own_d x0 x1 x2 x3 x4) (sg iN)) := (by rw [show cN = sg iN by omega])
          refine own_go (fun t k => XS.icmpYes X25.here hx rfl (pc0 := 31) (pc' := 40) rfl (hb hby d4_31) rfl (teq hc31).1 (by decide) (by decide) k) ?_
          refine own_go (fun t k => XS.aloadN X25.here hx rfl (hb hby d4_40) rfl rfl  k) ?_
          refine own_go (fun t k => XS.iload X25.here hx rfl (hb hby d4_41) rfl  k) ?_
          show own_Run p e below Φ (T25.setTop (mkF m 43 #[.val (.ref a1), .val (.ref a2), .val (.ref b2), .val (.int cd), .val (.int ii)] [(.int ii), (.ref b2)]))
          refine own_go (fun t k => XS.iloadN X25.here hx rfl (hb hby d4_43) rfl  k) ?_
          refine own_iastore X25 hx hZ e25 F23 (j := ii) ⟨(own_ix hi_ (by omega : iN < 5)).1, by rw [Int32.lt_iff_toInt_lt, hk, hi_]; omega⟩ ii.toNatClampNeg rfl (by rw [own_nat hi_, hrl]; omega) (g := (mkF m 44 #[.val (.ref a1), .val (.ref a2), .val (.ref b2), .val (.int cd), .val (.int ii)] [(.int cd), (.int ii), (.ref b2)])) rfl rfl (hb hby d4_44) (fun T26 h26 X26 e26 W26 V26 => ?_)
          replace V26 : Arv Z h26 b2 k2 .int p5 (rs.set ii.toNatClampNeg (.int cd)) (.int (0 : Int32)) := V26
          have N26 := Fr.snoc X26 N25 (Nat.le_trans H7 (Nat.le_of_eq g2.symm))
          refine own_go (fun t k => XS.iinc X26.here hx rfl (hb hby d4_45) rfl (l' := #[.val (.ref a1), .val (.ref a2), .val (.ref b2), .val (.int cd), .val (.int (ii + (1 : Int32)))]) rfl k) ?_
          refine own_go (fun t k => XS.goto X26.here hx rfl (pc0 := 48) (pc' := 12) rfl (hb hby d4_48) (by decide) (by decide) k) ?_
          have F27 : Fld Z h26 a1 "com/example/glossyn/glossyn/search/Candidates" "documents" "[I" (.ref a3) := (F16.other W26 (Or.inl ne_a1_b2))
          have F28 : Exa Z h26 a2 "com/example/glossyn/glossyn/index/Postings" := (F17.wr W26)
          have F29 : Fld Z h26 a2 "com/example/glossyn/glossyn/index/Postings" "documents" "[I" (.ref a4) := (F18.other W26 (Or.inl ne_a2_b2))
          have F30 : Arv Z h26 a3 k3 .int (5 : Int32) [(.int x0), (.int x1), (.int x2), (.int x3), (.int x4)] (.int (0 : Int32)) := (F19.other W26 ne_a3_b2)
          have F31 : Arv Z h26 a4 k4 .int (5 : Int32) us (.int (0 : Int32)) := (F20.other W26 ne_a4_b2)
          have F32 : Keep h0 h26 [] := (F21.wr W26 (Or.inr (Nat.le_trans K0.1 (Nat.le_of_eq g2.symm))))
          have F33 : n0 ≤ h26.size := (Nat.le_trans F22 (Keep.of_wr W26).1)
          exact ih12 cd (ii + (1 : Int32)) (iN + 1) cN _ T26 h26 _ _ _ X26 e26 N26 (Nat.add_le_add_right hc15 0) (Nat.add_le_add_right hs15 0) F27 F28 F29 F30 F31 F32 F33 V26 (own_inc hi_ (by omega)) hcd (by omega) (fun hlt => by have := hsB iN (iN + 1) (by omega) hlt; omega) (by rw [List.length_set]; exact hrl) (own_rst hi_ hcd (by omega) (hsA iN (by omega)).2.2 (by omega) hrs)
        | succ q ih19 =>
          intro cd cN T15 h15 l15 c15 z15 X15 e15 N15 hc15 hs15 F16 F17 F18 F19 F20 F21 F22 F23 hcd hq_
          show own_Run p e below Φ (T15.setTop (mkF m 19 #[.val (.ref a1), .val (.ref a2), .val (.ref b2), .val (.int cd), .val (.int ii)] []))
          refine own_go (fun t k => XS.aloadN X15.here hx rfl (hb hby d4_19) rfl rfl  k) ?_
          obtain ⟨T34, X34, e34, st34⟩ := getF X15 hx hZ hown (host := "") (Or.inl (hw _ (List.mem_of_getElem? (i := 11) rfl))) Via.refl e15 F16 (g := (mkF m 20 #[.val (.ref a1), .val (.ref a2), .val (.ref b2), .val (.int cd), .val (.int ii)] [(.ref a1)])) rfl rfl (hb hby d4_20)
          refine own_go st34 ?_
          refine own_go (fun t k => XS.iloadN X34.here hx rfl (hb hby d4_23) rfl  k) ?_
          refine own_iaload X34 hx hZ e34 F19 (j := cd) (v := (.int ((own_d x0 x1 x2 x3 x4) cN))) (own_ix hcd (by have := (hsA iN (by omega)).1; omega)) (by rw [own_nat hcd]; exact own_dv _ _ _ _ _ _ (by have := (hsA iN (by omega)).1; omega)) (g := (mkF m 24 #[.val (.ref a1), .val (.ref a2), .val (.ref b2), .val (.int cd), .val (.int ii)] [(.int cd), (.ref a3)])) rfl rfl (hb hby d4_24) ?_
          refine own_go (fun t k => XS.aloadN X34.here hx rfl (hb hby d4_25) rfl rfl  k) ?_
          show own_Run p e below Φ (T34.setTop (mkF m 26 #[.val (.ref a1), .val (.ref a2), .val (.ref b2), .val (.int cd), .val (.int ii)] [(.ref a2), (.int ((own_d x0 x1 x2 x3 x4) cN))]))
          refine own_go (fun t k => XS.iload X34.here hx rfl (hb hby d4_26) rfl  k) ?_
          refine own_callV X34 hx hZ (y := (⟨"com/example/glossyn/glossyn/index/Postings", "document", "(I)I"⟩ : MethodName)) (z := (⟨"com/example/glossyn/glossyn/index/Postings", "document", "(I)I"⟩ : MethodName)) (W := 1) (a := a2) (argsL := [(.int ii)]) (rest := [(.int ((own_d x0 x1 x2 x3 x4) cN))]) hown (hw _ (List.mem_of_getElem? (i := 42) rfl)) (hw _ (List.mem_of_getElem? (i := 43) rfl)) (notFace_of_selects (args := #[]) (mvT hZ (hw _ (List.mem_of_getElem? (i := 45) rfl)))) (hw _ (List.mem_of_getElem? (i := 45) rfl)) (hw _ (List.mem_of_getElem? (i := 44) rfl)) (by decide) (own_bk (rm_do l Z a0 hw a2 ii a4 k4 us ((own_d x0 x1 x2 x3 x4) (sg iN)) h15 n0 F18 F20 (own_ix hi_ (by omega : iN < 5)) (by rw [own_nat hi_]; exact (hsA iN (by omega)).2.1)) hZ (hw _ (List.mem_of_getElem? (i := 46) rfl)) (hw _ (List.mem_of_getElem? (i := 21) rfl)) (by decide) (by decide)) e34 F17 (g := (mkF m 28 #[.val (.ref a1), .val (.ref a2), .val (.ref b2), .val (.int cd), .val (.int ii)] [(.int ii), (.ref a2), (.int ((own_d x0 x1 x2 x3 x4) cN))])) rfl (by rw [hml]; rfl) (lenOf pd_5 rfl) rfl (by show 2 * 0 + _ ≤ _; exact Nat.le_of_eq rfl) (hb hby d4_28) (own_le hc15 (by decide)) (own_le hs15 (by decide)) (fun v35 T35 h35 L35 X35 e35 q35 => ?_)
          obtain ⟨rfl, M35, s35⟩ := q35
          replace e35 : T35.heap = h15 := e35.trans s35
          have N35 := Fr.app N15 M35
          have hc31 : ¬ (((own_d x0 x1 x2 x3 x4) cN) = ((own_d x0 x1 x2 x3 x4) (sg iN))) := (hJ cN (sg iN) (by omega) (hsA iN (by omega)).1)
          refine own_go (fun t k => XS.icmpNo X35.here hx rfl (hb hby d4_31) rfl (feq hc31).1 k) ?_
          refine own_go (fun t k => XS.iinc X35.here hx rfl (hb hby d4_34) rfl (l' := #[.val (.ref a1), .val (.ref a2), .val (.ref b2), .val (.int (cd + (1 : Int32))), .val (.int ii)]) rfl k) ?_
          refine own_go (fun t k => XS.goto X35.here hx rfl (pc0 := 37) (pc' := 19) rfl (hb hby d4_37) (by decide) (by decide) k) ?_
          exact ih19 (cd + (1 : Int32)) (cN + 1) T35 h15 _ _ _ X35 e35 N35 (Nat.add_le_add_right hc15 0) (Nat.add_le_add_right hs15 0) F16 F17 F18 F19 F20 F21 F22 F23 (own_inc hcd (by have := (hsA iN (by omega)).1; omega)) (by omega)
      exact J19_14 (sg iN - cM) cc cM T5 h5 _ _ _ X5 e5 N5 hc5 hs5 F6 F7 F8 F9 F10 F11 F12 F13 hcc (by have := hcs (by omega); omega)
  have F36 : Fld Z h2 a1 "com/example/glossyn/glossyn/search/Candidates" "documents" "[I" (.ref a3) := (H1.ext E2)
  have F37 : Exa Z h2 a2 "com/example/glossyn/glossyn/index/Postings" := (H2.ext E2)
  have F38 : Fld Z h2 a2 "com/example/glossyn/glossyn/index/Postings" "documents" "[I" (.ref a4) := (H4.ext E2)
  have F39 : Arv Z h2 a3 k3 .int (5 : Int32) [(.int x0), (.int x1), (.int x2), (.int x3), (.int x4)] (.int (0 : Int32)) := (H5.ext E2)
  have F40 : Arv Z h2 a4 k4 .int (5 : Int32) us (.int (0 : Int32)) := (H6.ext E2)
  have F41 : Keep h0 h2 [] := (K0.ext E2)
  have F42 : n0 ≤ h2.size := (Nat.le_trans H7 E2.1)
  exact J12_4 kn (0 : Int32) (0 : Int32) 0 0 [.int (0 : Int32), .int (0 : Int32), .int (0 : Int32), .int (0 : Int32), .int (0 : Int32)] T2 h2 _ _ _ X2 e2 N1 (by decide) (by decide) F36 F37 F38 F39 F40 F41 F42 V2 rfl rfl (by omega) (fun _ => Nat.zero_le _) rfl (fun i hi => absurd hi (Nat.not_lt_zero _))
theorem own_lt5 {k : Int32} (h : ¬ k < 0 ∧ k < (5 : Int32)) : k.toNatClampNeg < 5 := by
  simp only [Int32.lt_iff_toInt_lt, Int32.reduceToInt, Int32.toNatClampNeg] at *; omega
theorem own_rd {d : Nat → Int32} {k p : Int32} {us es rs : List Value} {kn : Nat} {sg : Nat → Nat} (hI : own_I d 5 k us es kn sg) (hrs : ∀ i, i < kn → rs.getD i (.int (0 : Int32)) = es.getD i (.int (0 : Int32))) (hp : ¬ p < 0) : p < k → rs.getD p.toNatClampNeg (.int (0 : Int32)) = es.getD p.toNatClampNeg (.int (0 : Int32)) ∧ ∃ z, es.getD p.toNatClampNeg (.int (0 : Int32)) = .int z := by
  intro h
  obtain ⟨hk, -, -, -, h5, -⟩ := hI
  have : p.toNatClampNeg < kn := by
    simp only [Int32.lt_iff_toInt_lt, Int32.reduceToInt, Int32.toNatClampNeg] at *; omega
  exact ⟨hrs _ this, _, (h5 _ this).2.2⟩
theorem pd_0 : parseMethodDescriptor "([I[IID)V" = some ⟨[(.array .int), (.array .int), .int, .double], none⟩ := by decide +kernel
theorem pd_2 : parseMethodDescriptor "([I[II)V" = some ⟨[(.array .int), (.array .int), .int], none⟩ := by decide +kernel
theorem pd_3 : parseMethodDescriptor "(Lcom/example/glossyn/glossyn/index/Postings;)[I" = some ⟨[(.object "com/example/glossyn/glossyn/index/Postings")], some (.array .int)⟩ := by decide +kernel
theorem pd_6 : parseMethodDescriptor "([I[III)Z" = some ⟨[(.array .int), (.array .int), .int, .int], some .boolean⟩ := by decide +kernel
theorem ef_0_IIIIII (m : MethodId) (x0 : Int32) (x1 : Int32) (x2 : Int32) (x3 : Int32) (x4 : Int32) (x5 : Int32) : entryFrame m #[(.int x0), (.int x1), (.int x2), (.int x3), (.int x4), (.int x5)] maxLocals = mkF m 0 #[.val (.int x0), .val (.int x1), .val (.int x2), .val (.int x3), .val (.int x4), .val (.int x5), .unset, .unset, .unset, .unset, .unset, .unset, .unset, .unset, .unset, .unset, .unset, .unset, .unset] [] := by first | (simp [entryFrame, mkF, argsToLocals, Value.category, maxLocals]; done) | rfl
set_option maxRecDepth 65536 in
set_option maxHeartbeats 40000000 in
theorem rm_law (l : Launch) (Z : State) (a0 : Array Value) (hw : ∀ d ∈ tables_1, d.before a0 Z = true) (p1 : Int32) (p2 : Int32) (p3 : Int32) (p4 : Int32) (p5 : Int32) (p6 : Int32) (h0 : Heap) (n0 : Nat) (Z0 : n0 ≤ h0.size) :
    own_Met l Z x code maxLocals ret room_1 #[(.int p1), (.int p2), (.int p3), (.int p4), (.int p5), (.int p6)] h0 (fun v h L => v = some (.int 1) ∧ Fr n0 L) := by
  intro ws
  refine MetFree.of_bodySF (plainFor_of_name pn_c0) hisR ?_
  intro p e s m args below meth c s₁ Bd hml0 hP hK
  obtain ⟨rfl, hZ, hh⟩ := hP
  have hx := Bd.exec
  have hby := Bd.bytes
  have hml : c.maxLocals = 19 := hml0
  have hown : s.vm.findClass "com/example/glossyn/glossyn/search/CandidatesPlacesOfPinLaw" = some m.cls := findClass_of_methodNamed Bd.named
  have hnm := (name_of_methodNamed Bd.named Bd.method).1
  have hlk : meth.locks = false := Bd.notSynchronized
  have X0 : Stand p l e room_1 s m #[(.int p1), (.int p2), (.int p3), (.int p4), (.int p5), (.int p6)] below meth c s₁ [] 0 0 := Stand.of_body Bd
  have e0 : s₁.heap = h0 := by rw [← hh, Bd.state]; rfl
  have N0 := Fr.nil n0
  refine own_body (Q := fun v h L => v = some (.int 1) ∧ Fr n0 L) ?_
  generalize hΦ : own_Fin s below _ _ _ = Φ
  refine own_cast (ef_0_IIIIII m p1 p2 p3 p4 p5 p6) ?_
  show own_Run p e below Φ (s₁.setTop (mkF m 0 #[.val (.int p1), .val (.int p2), .val (.int p3), .val (.int p4), .val (.int p5), .val (.int p6), .unset, .unset, .unset, .unset, .unset, .unset, .unset, .unset, .unset, .unset, .unset, .unset, .unset] []))
  refine own_go (fun t k => XS.iloadN X0.here hx rfl (hb hby at_0) rfl  k) ?_
  refine own_go (fun t k => XS.iconst X0.here hx rfl (hb hby at_1) k) ?_
  refine own_go (fun t k => XS.ishr X0.here hx rfl (hb hby at_2) rfl k) ?_
  refine own_go (fun t k => XS.istore X0.here hx rfl (hb hby at_3) rfl (l' := #[.val (.int p1), .val (.int p2), .val (.int p3), .val (.int p4), .val (.int p5), .val (.int p6), .val (.int (p1 >>> ((3 : Int32) &&& 31))), .unset, .unset, .unset, .unset, .unset, .unset, .unset, .unset, .unset, .unset, .unset, .unset]) rfl k) ?_
  refine own_go (fun t k => XS.iload X0.here hx rfl (hb hby at_5) rfl  k) ?_
  show own_Run p e below Φ (s₁.setTop (mkF m 7 #[.val (.int p1), .val (.int p2), .val (.int p3), .val (.int p4), .val (.int p5), .val (.int p6), .val (.int (p1 >>> ((3 : Int32) &&& 31))), .unset, .unset, .unset, .unset, .unset, .unset, .unset, .unset, .unset, .unset, .unset, .unset] [(.int (p1 >>> ((3 : Int32) &&& 31)))]))
  refine own_go (fun t k => XS.iconst X0.here hx rfl (hb hby at_7) k) ?_
  refine own_go (fun t k => XS.iadd X0.here hx rfl (hb hby at_8) rfl k) ?_
  refine own_go (fun t k => XS.iloadN X0.here hx rfl (hb hby at_9) rfl  k) ?_
  refine own_go (X0.ldcInt hx hown (mvT hZ (hw _ (List.mem_of_getElem? (i := 0) rfl))) (g := (mkF m 10 #[.val (.int p1), .val (.int p2), .val (.int p3), .val (.int p4), .val (.int p5), .val (.int p6), .val (.int (p1 >>> ((3 : Int32) &&& 31))), .unset, .unset, .unset, .unset, .unset, .unset, .unset, .unset, .unset, .unset, .unset, .unset] [(.int p2), (.int ((p1 >>> ((3 : Int32) &&& 31)) + (1 : Int32)))])) rfl (hb hby at_10)) ?_
  refine own_go (fun t k => XS.iand X0.here hx rfl (hb hby at_12) rfl k) ?_
  show own_Run p e below Φ (s₁.setTop (mkF m 13 #[.val (.int p1), .val (.int p2), .val (.int p3), .val (.int p4), .val (.int p5), .val (.int p6), .val (.int (p1 >>> ((3 : Int32) &&& 31))), .unset, .unset, .unset, .unset, .unset, .unset, .unset, .unset, .unset, .unset, .unset, .unset] [(.int (p2 &&& (268435455 : Int32))), (.int ((p1 >>> ((3 : Int32) &&& 31)) + (1 : Int32)))]))
  refine own_go (fun t k => XS.iadd X0.here hx rfl (hb hby at_13) rfl k) ?_
  refine own_go (fun t k => XS.istore X0.here hx rfl (hb hby at_14) rfl (l' := #[.val (.int p1), .val (.int p2), .val (.int p3), .val (.int p4), .val (.int p5), .val (.int p6), .val (.int (p1 >>> ((3 : Int32) &&& 31))), .val (.int (((p1 >>> ((3 : Int32) &&& 31)) + (1 : Int32)) + (p2 &&& (268435455 : Int32)))), .unset, .unset, .unset, .unset, .unset, .unset, .unset, .unset, .unset, .unset, .unset]) rfl k) ?_
  refine own_go (fun t k => XS.iload X0.here hx rfl (hb hby at_16) rfl  k) ?_
  refine own_go (fun t k => XS.iconst X0.here hx rfl (hb hby at_18) k) ?_
  refine own_go (fun t k => XS.iadd X0.here hx rfl (hb hby at_19) rfl k) ?_
  show own_Run p e below Φ (s₁.setTop (mkF m 20 #[.val (.int p1), .val (.int p2), .val (.int p3), .val (.int p4), .val (.int p5), .val (.int p6), .val (.int (p1 >>> ((3 : Int32) &&& 31))), .val (.int (((p1 >>> ((3 : Int32) &&& 31)) + (1 : Int32)) + (p2 &&& (268435455 : Int32)))), .unset, .unset, .unset, .unset, .unset, .unset, .unset, .unset, .unset, .unset, .unset] [(.int ((((p1 >>> ((3 : Int32) &&& 31)) + (1 : Int32)) + (p2 &&& (268435455 : Int32))) + (1 : Int32)))]))
  refine own_go (fun t k => XS.iloadN X0.here hx rfl (hb hby at_20) rfl  k) ?_
  refine own_go (X0.ldcInt hx hown (mvT hZ (hw _ (List.mem_of_getElem? (i := 0) rfl))) (g := (mkF m 21 #[.val (.int p1), .val (.int p2), .val (.int p3), .val (.int p4), .val (.int p5), .val (.int p6), .val (.int (p1 >>> ((3 : Int32) &&& 31))), .val (.int (((p1 >>> ((3 : Int32) &&& 31)) + (1 : Int32)) + (p2 &&& (268435455 : Int32)))), .unset, .unset, .unset, .unset, .unset, .unset, .unset, .unset, .unset, .unset, .unset] [(.int p3), (.int ((((p1 >>> ((3 : Int32) &&& 31)) + (1 : Int32)) + (p2 &&& (268435455 : Int32))) + (1 : Int32)))])) rfl (hb hby at_21)) ?_
  refine own_go (fun t k => XS.iand X0.here hx rfl (hb hby at_23) rfl k) ?_
  refine own_go (fun t k => XS.iadd X0.here hx rfl (hb hby at_24) rfl k) ?_
  refine own_go (fun t k => XS.istore X0.here hx rfl (hb hby at_25) rfl (l' := #[.val (.int p1), .val (.int p2), .val (.int p3), .val (.int p4), .val (.int p5), .val (.int p6), .val (.int (p1 >>> ((3 : Int32) &&& 31))), .val (.int (((p1 >>> ((3 : Int32) &&& 31)) + (1 : Int32)) + (p2 &&& (268435455 : Int32)))), .val (.int (((((p1 >>> ((3 : Int32) &&& 31)) + (1 : Int32)) + (p2 &&& (268435455 : Int32))) + (1 : Int32)) + (p3 &&& (268435455 : Int32)))), .unset, .unset, .unset, .unset, .unset, .unset, .unset, .unset, .unset, .unset]) rfl k) ?_
  show own_Run p e below Φ (s₁.setTop (mkF m 27 #[.val (.int p1), .val (.int p2), .val (.int p3), .val (.int p4), .val (.int p5), .val (.int p6), .val (.int (p1 >>> ((3 : Int32) &&& 31))), .val (.int (((p1 >>> ((3 : Int32) &&& 31)) + (1 : Int32)) + (p2 &&& (268435455 : Int32)))), .val (.int (((((p1 >>> ((3 : Int32) &&& 31)) + (1 : Int32)) + (p2 &&& (268435455 : Int32))) + (1 : Int32)) + (p3 &&& (268435455 : Int32)))), .unset, .unset, .unset, .unset, .unset, .unset, .unset, .unset, .unset, .unset] []))
  refine own_go (fun t k => XS.iload X0.here hx rfl (hb hby at_27) rfl  k) ?_
  refine own_go (fun t k => XS.iconst X0.here hx rfl (hb hby at_29) k) ?_
  refine own_go (fun t k => XS.iadd X0.here hx rfl (hb hby at_30) rfl k) ?_
  refine own_go (fun t k => XS.iloadN X0.here hx rfl (hb hby at_31) rfl  k) ?_
  refine own_go (X0.ldcInt hx hown (mvT hZ (hw _ (List.mem_of_getElem? (i := 0) rfl))) (g := (mkF m 32 #[.val (.int p1), .val (.int p2), .val (.int p3), .val (.int p4), .val (.int p5), .val (.int p6), .val (.int (p1 >>> ((3 : Int32) &&& 31))), .val (.int (((p1 >>> ((3 : Int32) &&& 31)) + (1 : Int32)) + (p2 &&& (268435455 : Int32)))), .val (.int (((((p1 >>> ((3 : Int32) &&& 31)) + (1 : Int32)) + (p2 &&& (268435455 : Int32))) + (1 : Int32)) + (p3 &&& (268435455 : Int32)))), .unset, .unset, .unset, .unset, .unset, .unset, .unset, .unset, .unset, .unset] [(.int p4), (.int ((((((p1 >>> ((3 : Int32) &&& 31)) + (1 : Int32)) + (p2 &&& (268435455 : Int32))) + (1 : Int32)) + (p3 &&& (268435455 : Int32))) + (1 : Int32)))])) rfl (hb hby at_32)) ?_
  show own_Run p e below Φ (s₁.setTop (mkF m 34 #[.val (.int p1), .val (.int p2), .val (.int p3), .val (.int p4), .val (.int p5), .val (.int p6), .val (.int (p1 >>> ((3 : Int32) &&& 31))), .val (.int (((p1 >>> ((3 : Int32) &&& 31)) + (1 : Int32)) + (p2 &&& (268435455 : Int32)))), .val (.int (((((p1 >>> ((3 : Int32) &&& 31)) + (1 : Int32)) + (p2 &&& (268435455 : Int32))) + (1 : Int32)) + (p3 &&& (268435455 : Int32)))), .unset, .unset, .unset, .unset, .unset, .unset, .unset, .unset, .unset, .unset] [(.int (268435455 : Int32)), (.int p4), (.int ((((((p1 >>> ((3 : Int32) &&& 31)) + (1 : Int32)) + (p2 &&& (268435455 : Int32))) + (1 : Int32)) + (p3 &&& (268435455 : Int32))) + (1 : Int32)))]))
  refine own_go (fun t k => XS.iand X0.here hx rfl (hb hby at_34) rfl k) ?_
  refine own_go (fun t k => XS.iadd X0.here hx rfl (hb hby at_35) rfl k) ?_
  refine own_go (fun t k => XS.istore X0.here hx rfl (hb hby at_36) rfl (l' := #[.val (.int p1), .val (.int p2), .val (.int p3), .val (.int p4), .val (.int p5), .val (.int p6), .val (.int (p1 >>> ((3 : Int32) &&& 31))), .val (.int (((p1 >>> ((3 : Int32) &&& 31)) + (1 : Int32)) + (p2 &&& (268435455 : Int32)))), .val (.int (((((p1 >>> ((3 : Int32) &&& 31)) + (1 : Int32)) + (p2 &&& (268435455 : Int32))) + (1 : Int32)) + (p3 &&& (268435455 : Int32)))), .val (.int (((((((p1 >>> ((3 : Int32) &&& 31)) + (1 : Int32)) + (p2 &&& (268435455 : Int32))) + (1 : Int32)) + (p3 &&& (268435455 : Int32))) + (1 : Int32)) + (p4 &&& (268435455 : Int32)))), .unset, .unset, .unset, .unset, .unset, .unset, .unset, .unset, .unset]) rfl k) ?_
  refine own_go (fun t k => XS.iload X0.here hx rfl (hb hby at_38) rfl  k) ?_
  refine own_go (fun t k => XS.iconst X0.here hx rfl (hb hby at_40) k) ?_
  show own_Run p e below Φ (s₁.setTop (mkF m 41 #[.val (.int p1), .val (.int p2), .val (.int p3), .val (.int p4), .val (.int p5), .val (.int p6), .val (.int (p1 >>> ((3 : Int32) &&& 31))), .val (.int (((p1 >>> ((3 : Int32) &&& 31)) + (1 : Int32)) + (p2 &&& (268435455 : Int32)))), .val (.int (((((p1 >>> ((3 : Int32) &&& 31)) + (1 : Int32)) + (p2 &&& (268435455 : Int32))) + (1 : Int32)) + (p3 &&& (268435455 : Int32)))), .val (.int (((((((p1 >>> ((3 : Int32) &&& 31)) + (1 : Int32)) + (p2 &&& (268435455 : Int32))) + (1 : Int32)) + (p3 &&& (268435455 : Int32))) + (1 : Int32)) + (p4 &&& (268435455 : Int32)))), .unset, .unset, .unset, .unset, .unset, .unset, .unset, .unset, .unset] [(.int (1 : Int32)), (.int (((((((p1 >>> ((3 : Int32) &&& 31)) + (1 : Int32)) + (p2 &&& (268435455 : Int32))) + (1 : Int32)) + (p3 &&& (268435455 : Int32))) + (1 : Int32)) + (p4 &&& (268435455 : Int32))))]))
  refine own_go (fun t k => XS.iadd X0.here hx rfl (hb hby at_41) rfl k) ?_
  refine own_go (fun t k => XS.iload X0.here hx rfl (hb hby at_42) rfl  k) ?_
  refine own_go (X0.ldcInt hx hown (mvT hZ (hw _ (List.mem_of_getElem? (i := 0) rfl))) (g := (mkF m 44 #[.val (.int p1), .val (.int p2), .val (.int p3), .val (.int p4), .val (.int p5), .val (.int p6), .val (.int (p1 >>> ((3 : Int32) &&& 31))), .val (.int (((p1 >>> ((3 : Int32) &&& 31)) + (1 : Int32)) + (p2 &&& (268435455 : Int32)))), .val (.int (((((p1 >>> ((3 : Int32) &&& 31)) + (1 : Int32)) + (p2 &&& (268435455 : Int32))) + (1 : Int32)) + (p3 &&& (268435455 : Int32)))), .val (.int (((((((p1 >>> ((3 : Int32) &&& 31)) + (1 : Int32)) + (p2 &&& (268435455 : Int32))) + (1 : Int32)) + (p3 &&& (268435455 : Int32))) + (1 : Int32)) + (p4 &&& (268435455 : Int32)))), .unset, .unset, .unset, .unset, .unset, .unset, .unset, .unset, .unset] [(.int p5), (.int ((((((((p1 >>> ((3 : Int32) &&& 31)) + (1 : Int32)) + (p2 &&& (268435455 : Int32))) + (1 : Int32)) + (p3 &&& (268435455 : Int32))) + (1 : Int32)) + (p4 &&& (268435455 : Int32))) + (1 : Int32)))])) rfl (hb hby at_44)) ?_
  refine own_go (fun t k => XS.iand X0.here hx rfl (hb hby at_46) rfl k) ?_
  refine own_go (fun t k => XS.iadd X0.here hx rfl (hb hby at_47) rfl k) ?_
  show own_Run p e below Φ (s₁.setTop (mkF m 48 #[.val (.int p1), .val (.int p2), .val (.int p3), .val (.int p4), .val (.int p5), .val (.int p6), .val (.int (p1 >>> ((3 : Int32) &&& 31))), .val (.int (((p1 >>> ((3 : Int32) &&& 31)) + (1 : Int32)) + (p2 &&& (268435455 : Int32)))), .val (.int (((((p1 >>> ((3 : Int32) &&& 31)) + (1 : Int32)) + (p2 &&& (268435455 : Int32))) + (1 : Int32)) + (p3 &&& (268435455 : Int32)))), .val (.int (((((((p1 >>> ((3 : Int32) &&& 31)) + (1 : Int32)) + (p2 &&& (268435455 : Int32))) + (1 : Int32)) + (p3 &&& (268435455 : Int32))) + (1 : Int32)) + (p4 &&& (268435455 : Int32)))), .unset, .unset, .unset, .unset, .unset, .unset, .unset, .unset, .unset] [(.int (((((((((p1 >>> ((3 : Int32) &&& 31)) + (1 : Int32)) + (p2 &&& (268435455 : Int32))) + (1 : Int32)) + (p3 &&& (268435455 : Int32))) + (1 : Int32)) + (p4 &&& (268435455 : Int32))) + (1 : Int32)) + (p5 &&& (268435455 : Int32))))]))
  refine own_go (fun t k => XS.istore X0.here hx rfl (hb hby at_48) rfl (l' := #[.val (.int p1), .val (.int p2), .val (.int p3), .val (.int p4), .val (.int p5), .val (.int p6), .val (.int (p1 >>> ((3 : Int32) &&& 31))), .val (.int (((p1 >>> ((3 : Int32) &&& 31)) + (1 : Int32)) + (p2 &&& (268435455 : Int32)))), .val (.int (((((p1 >>> ((3 : Int32) &&& 31)) + (1 : Int32)) + (p2 &&& (268435455 : Int32))) + (1 : Int32)) + (p3 &&& (268435455 : Int32)))), .val (.int (((((((p1 >>> ((3 : Int32) &&& 31)) + (1 : Int32)) + (p2 &&& (268435455 : Int32))) + (1 : Int32)) + (p3 &&& (268435455 : Int32))) + (1 : Int32)) + (p4 &&& (268435455 : Int32)))), .val (.int (((((((((p1 >>> ((3 : Int32) &&& 31)) + (1 : Int32)) + (p2 &&& (268435455 : Int32))) + (1 : Int32)) + (p3 &&& (268435455 : Int32))) + (1 : Int32)) + (p4 &&& (268435455 : Int32))) + (1 : Int32)) + (p5 &&& (268435455 : Int32)))), .unset, .unset, .unset, .unset, .unset, .unset, .unset, .unset]) rfl k) ?_
  show own_Run p e below Φ (s₁.setTop (mkF m 50 #[.val (.int p1), .val (.int p2), .val (.int p3), .val (.int p4), .val (.int p5), .val (.int p6), .val (.int (p1 >>> ((3 : Int32) &&& 31))), .val (.int (((p1 >>> ((3 : Int32) &&& 31)) + (1 : Int32)) + (p2 &&& (268435455 : Int32)))), .val (.int (((((p1 >>> ((3 : Int32) &&& 31)) + (1 : Int32)) + (p2 &&& (268435455 : Int32))) + (1 : Int32)) + (p3 &&& (268435455 : Int32)))), .val (.int (((((((p1 >>> ((3 : Int32) &&& 31)) + (1 : Int32)) + (p2 &&& (268435455 : Int32))) + (1 : Int32)) + (p3 &&& (268435455 : Int32))) + (1 : Int32)) + (p4 &&& (268435455 : Int32)))), .val (.int (((((((((p1 >>> ((3 : Int32) &&& 31)) + (1 : Int32)) + (p2 &&& (268435455 : Int32))) + (1 : Int32)) + (p3 &&& (268435455 : Int32))) + (1 : Int32)) + (p4 &&& (268435455 : Int32))) + (1 : Int32)) + (p5 &&& (268435455 : Int32)))), .unset, .unset, .unset, .unset, .unset, .unset, .unset, .unset] []))
  have hb0 := own_base p1
  generalize ex0 : (p1 >>> ((3 : Int32) &&& 31)) = x0 at hb0 ⊢
  obtain ⟨s0, t0, u0⟩ := own_up (x := x0) (g := p2) (lo := -268435456) (hi := 268435455) (by omega) (by omega) (by decide) (by decide)
  generalize ex1 : ((x0 + (1 : Int32)) + (p2 &&& (268435455 : Int32))) = x1 at s0 ⊢
  obtain ⟨s1, t1, u1⟩ := own_up (x := x1) (g := p3) (lo := -268435456) (hi := 536870911) (by omega) (by omega) (by decide) (by decide)
  generalize ex2 : ((x1 + (1 : Int32)) + (p3 &&& (268435455 : Int32))) = x2 at s1 ⊢
  obtain ⟨s2, t2, u2⟩ := own_up (x := x2) (g := p4) (lo := -268435456) (hi := 805306367) (by omega) (by omega) (by decide) (by decide)
  generalize ex3 : ((x2 + (1 : Int32)) + (p4 &&& (268435455 : Int32))) = x3 at s2 ⊢
  obtain ⟨s3, t3, u3⟩ := own_up (x := x3) (g := p5) (lo := -268435456) (hi := 1073741823) (by omega) (by omega) (by decide) (by decide)
  generalize ex4 : ((x3 + (1 : Int32)) + (p5 &&& (268435455 : Int32))) = x4 at s3 ⊢
  show own_Run p e below Φ (s₁.setTop (mkF m 50 #[.val (.int p1), .val (.int p2), .val (.int p3), .val (.int p4), .val (.int p5), .val (.int p6), .val (.int x0), .val (.int x1), .val (.int x2), .val (.int x3), .val (.int x4), .unset, .unset, .unset, .unset, .unset, .unset, .unset, .unset] []))
  refine own_go (fun t k => XS.iconst X0.here hx rfl (hb hby at_50) k) ?_
  refine own_newP X0 hx hZ (hw _ (List.mem_of_getElem? (i := 1) rfl)) e0 (g := (mkF m 51 #[.val (.int p1), .val (.int p2), .val (.int p3), .val (.int p4), .val (.int p5), .val (.int p6), .val (.int x0), .val (.int x1), .val (.int x2), .val (.int x3), .val (.int x4), .unset, .unset, .unset, .unset, .unset, .unset, .unset, .unset] [(.int (5 : Int32))])) rfl (hb hby at_51) rfl (by decide) 5 (by decide) (by decide) (by decide) (by decide) 5 (fun T1 h1 k1 b1 X1 e1 E1 g1 V1 => ?_)
  replace V1 : Arv Z h1 b1 k1 .int (5 : Int32) [(.int (0 : Int32)), (.int (0 : Int32)), (.int (0 : Int32)), (.int (0 : Int32)), (.int (0 : Int32))] (.int (0 : Int32)) := V1
  refine own_go (fun t k => XS.astore X1.here hx rfl (hb hby at_53) rfl rfl (l' := #[.val (.int p1), .val (.int p2), .val (.int p3), .val (.int p4), .val (.int p5), .val (.int p6), .val (.int x0), .val (.int x1), .val (.int x2), .val (.int x3), .val (.int x4), .val (.ref b1), .unset, .unset, .unset, .unset, .unset, .unset, .unset]) rfl k) ?_
  refine own_go (fun t k => XS.aload X1.here hx rfl (hb hby at_55) rfl rfl  k) ?_
  refine own_go (fun t k => XS.iconst X1.here hx rfl (hb hby at_57) k) ?_
  show own_Run p e below Φ (T1.setTop (mkF m 58 #[.val (.int p1), .val (.int p2), .val (.int p3), .val (.int p4), .val (.int p5), .val (.int p6), .val (.int x0), .val (.int x1), .val (.int x2), .val (.int x3), .val (.int x4), .val (.ref b1), .unset, .unset, .unset, .unset, .unset, .unset, .unset] [(.int (0 : Int32)), (.ref b1)]))
  refine own_go (fun t k => XS.iload X1.here hx rfl (hb hby at_58) rfl  k) ?_
  refine own_iastore X1 hx hZ e1 V1 (j := (0 : Int32)) ⟨by decide, by decide⟩ 0 rfl (Nat.le_of_ble_eq_true rfl) (g := (mkF m 60 #[.val (.int p1), .val (.int p2), .val (.int p3), .val (.int p4), .val (.int p5), .val (.int p6), .val (.int x0), .val (.int x1), .val (.int x2), .val (.int x3), .val (.int x4), .val (.ref b1), .unset, .unset, .unset, .unset, .unset, .unset, .unset] [(.int x0), (.int (0 : Int32)), (.ref b1)])) rfl rfl (hb hby at_60) (fun T3 h3 X3 e3 W3 V3 => ?_)
  replace V3 : Arv Z h3 b1 k1 .int (5 : Int32) [(.int x0), (.int (0 : Int32)), (.int (0 : Int32)), (.int (0 : Int32)), (.int (0 : Int32))] (.int (0 : Int32)) := V3
  have N3 := Fr.snoc X3 N0 (Nat.le_trans Z0 (Nat.le_of_eq g1.symm))
  refine own_go (fun t k => XS.aload X3.here hx rfl (hb hby at_61) rfl rfl  k) ?_
  refine own_go (fun t k => XS.iconst X3.here hx rfl (hb hby at_63) k) ?_
  refine own_go (fun t k => XS.iload X3.here hx rfl (hb hby at_64) rfl  k) ?_
  show own_Run p e below Φ (T3.setTop (mkF m 66 #[.val (.int p1), .val (.int p2), .val (.int p3), .val (.int p4), .val (.int p5), .val (.int p6), .val (.int x0), .val (.int x1), .val (.int x2), .val (.int x3), .val (.int x4), .val (.ref b1), .unset, .unset, .unset, .unset, .unset, .unset, .unset] [(.int x1), (.int (1 : Int32)), (.ref b1)]))
  refine own_iastore X3 hx hZ e3 V3 (j := (1 : Int32)) ⟨by decide, by decide⟩ 1 rfl (Nat.le_of_ble_eq_true rfl) (g := (mkF m 66 #[.val (.int p1), .val (.int p2), .val (.int p3), .val (.int p4), .val (.int p5), .val (.int p6), .val (.int x0), .val (.int x1), .val (.int x2), .val (.int x3), .val (.int x4), .val (.ref b1), .unset, .unset, .unset, .unset, .unset, .unset, .unset] [(.int x1), (.int (1 : Int32)), (.ref b1)])) rfl rfl (hb hby at_66) (fun T4 h4 X4 e4 W4 V4 => ?_)
  replace V4 : Arv Z h4 b1 k1 .int (5 : Int32) [(.int x0), (.int x1), (.int (0 : Int32)), (.int (0 : Int32)), (.int (0 : Int32))] (.int (0 : Int32)) := V4
  have N4 := Fr.snoc X4 N3 (Nat.le_trans Z0 (Nat.le_of_eq g1.symm))
  refine own_go (fun t k => XS.aload X4.here hx rfl (hb hby at_67) rfl rfl  k) ?_
  refine own_go (fun t k => XS.iconst X4.here hx rfl (hb hby at_69) k) ?_
  refine own_go (fun t k => XS.iload X4.here hx rfl (hb hby at_70) rfl  k) ?_
  refine own_iastore X4 hx hZ e4 V4 (j := (2 : Int32)) ⟨by decide, by decide⟩ 2 rfl (Nat.le_of_ble_eq_true rfl) (g := (mkF m 72 #[.val (.int p1), .val (.int p2), .val (.int p3), .val (.int p4), .val (.int p5), .val (.int p6), .val (.int x0), .val (.int x1), .val (.int x2), .val (.int x3), .val (.int x4), .val (.ref b1), .unset, .unset, .unset, .unset, .unset, .unset, .unset] [(.int x2), (.int (2 : Int32)), (.ref b1)])) rfl rfl (hb hby at_72) (fun T5 h5 X5 e5 W5 V5 => ?_)
  replace V5 : Arv Z h5 b1 k1 .int (5 : Int32) [(.int x0), (.int x1), (.int x2), (.int (0 : Int32)), (.int (0 : Int32))] (.int (0 : Int32)) := V5
  have N5 := Fr.snoc X5 N4 (Nat.le_trans Z0 (Nat.le_of_eq g1.symm))
  show own_Run p e below Φ (T5.setTop (mkF m 73 #[.val (.int p1), .val (.int p2), .val (.int p3), .val (.int p4), .val (.int p5), .val (.int p6), .val (.int x0), .val (.int x1), .val (.int x2), .val (.int x3), .val (.int x4), .val (.ref b1), .unset, .unset, .unset, .unset, .unset, .unset, .unset] []))
  refine own_go (fun t k => XS.aload X5.here hx rfl (hb hby at_73) rfl rfl  k) ?_
  refine own_go (fun t k => XS.iconst X5.here hx rfl (hb hby at_75) k) ?_
  refine own_go (fun t k => XS.iload X5.here hx rfl (hb hby at_76) rfl  k) ?_
  refine own_iastore X5 hx hZ e5 V5 (j := (3 : Int32)) ⟨by decide, by decide⟩ 3 rfl (Nat.le_of_ble_eq_true rfl) (g := (mkF m 78 #[.val (.int p1), .val (.int p2), .val (.int p3), .val (.int p4), .val (.int p5), .val (.int p6), .val (.int x0), .val (.int x1), .val (.int x2), .val (.int x3), .val (.int x4), .val (.ref b1), .unset, .unset, .unset, .unset, .unset, .unset, .unset] [(.int x3), (.int (3 : Int32)), (.ref b1)])) rfl rfl (hb hby at_78) (fun T6 h6 X6 e6 W6 V6 => ?_)
  replace V6 : Arv Z h6 b1 k1 .int (5 : Int32) [(.int x0), (.int x1), (.int x2), (.int x3), (.int (0 : Int32))] (.int (0 : Int32)) := V6
  have N6 := Fr.snoc X6 N5 (Nat.le_trans Z0 (Nat.le_of_eq g1.symm))
  refine own_go (fun t k => XS.aload X6.here hx rfl (hb hby at_79) rfl rfl  k) ?_
  show own_Run p e below Φ (T6.setTop (mkF m 81 #[.val (.int p1), .val (.int p2), .val (.int p3), .val (.int p4), .val (.int p5), .val (.int p6), .val (.int x0), .val (.int x1), .val (.int x2), .val (.int x3), .val (.int x4), .val (.ref b1), .unset, .unset, .unset, .unset, .unset, .unset, .unset] [(.ref b1)]))
  refine own_go (fun t k => XS.iconst X6.here hx rfl (hb hby at_81) k) ?_
  refine own_go (fun t k => XS.iload X6.here hx rfl (hb hby at_82) rfl  k) ?_
  refine own_iastore X6 hx hZ e6 V6 (j := (4 : Int32)) ⟨by decide, by decide⟩ 4 rfl (Nat.le_of_ble_eq_true rfl) (g := (mkF m 84 #[.val (.int p1), .val (.int p2), .val (.int p3), .val (.int p4), .val (.int p5), .val (.int p6), .val (.int x0), .val (.int x1), .val (.int x2), .val (.int x3), .val (.int x4), .val (.ref b1), .unset, .unset, .unset, .unset, .unset, .unset, .unset] [(.int x4), (.int (4 : Int32)), (.ref b1)])) rfl rfl (hb hby at_84) (fun T7 h7 X7 e7 W7 V7 => ?_)
  replace V7 : Arv Z h7 b1 k1 .int (5 : Int32) [(.int x0), (.int x1), (.int x2), (.int x3), (.int x4)] (.int (0 : Int32)) := V7
  have N7 := Fr.snoc X7 N6 (Nat.le_trans Z0 (Nat.le_of_eq g1.symm))
  refine own_go (fun t k => XS.iconst X7.here hx rfl (hb hby at_85) k) ?_
  have F9 : n0 ≤ h7.size := (Nat.le_trans (Nat.le_trans (Nat.le_trans (Nat.le_trans (Nat.le_trans (Nat.le_trans Z0 E1.1) (Keep.of_wr W3).1) (Keep.of_wr W4).1) (Keep.of_wr W5).1) (Keep.of_wr W6).1) (Keep.of_wr W7).1)
  refine own_newP X7 hx hZ (hw _ (List.mem_of_getElem? (i := 1) rfl)) e7 (g := (mkF m 86 #[.val (.int p1), .val (.int p2), .val (.int p3), .val (.int p4), .val (.int p5), .val (.int p6), .val (.int x0), .val (.int x1), .val (.int x2), .val (.int x3), .val (.int x4), .val (.ref b1), .unset, .unset, .unset, .unset, .unset, .unset, .unset] [(.int (5 : Int32))])) rfl (hb hby at_86) rfl (by decide) 5 (by decide) (by decide) (by decide) (by decide) 5 (fun T8 h8 k8 b8 X8 e8 E8 g8 V8 => ?_)
  have ne_b1_b8 : b1 ≠ b8 := Nat.ne_of_lt (Nat.lt_of_lt_of_le V7.lt (Nat.le_of_eq g8.symm))
  replace V8 : Arv Z h8 b8 k8 .int (5 : Int32) [(.int (0 : Int32)), (.int (0 : Int32)), (.int (0 : Int32)), (.int (0 : Int32)), (.int (0 : Int32))] (.int (0 : Int32)) := V8
  show own_Run p e below Φ (T8.setTop (mkF m 88 #[.val (.int p1), .val (.int p2), .val (.int p3), .val (.int p4), .val (.int p5), .val (.int p6), .val (.int x0), .val (.int x1), .val (.int x2), .val (.int x3), .val (.int x4), .val (.ref b1), .unset, .unset, .unset, .unset, .unset, .unset, .unset] [(.ref b8)]))
  refine own_go (fun t k => XS.astore X8.here hx rfl (hb hby at_88) rfl rfl (l' := #[.val (.int p1), .val (.int p2), .val (.int p3), .val (.int p4), .val (.int p5), .val (.int p6), .val (.int x0), .val (.int x1), .val (.int x2), .val (.int x3), .val (.int x4), .val (.ref b1), .val (.ref b8), .unset, .unset, .unset, .unset, .unset, .unset]) rfl k) ?_
  refine own_go (fun t k => XS.iconst X8.here hx rfl (hb hby at_90) k) ?_
  have F12 : n0 ≤ h8.size := (Nat.le_trans F9 E8.1)
  have F13 : Arv Z h8 b1 k1 .int (5 : Int32) [(.int x0), (.int x1), (.int x2), (.int x3), (.int x4)] (.int (0 : Int32)) := (V7.ext E8)
  refine own_newP X8 hx hZ (hw _ (List.mem_of_getElem? (i := 1) rfl)) e8 (g := (mkF m 91 #[.val (.int p1), .val (.int p2), .val (.int p3), .val (.int p4), .val (.int p5), .val (.int p6), .val (.int x0), .val (.int x1), .val (.int x2), .val (.int x3), .val (.int x4), .val (.ref b1), .val (.ref b8), .unset, .unset, .unset, .unset, .unset, .unset] [(.int (5 : Int32))])) rfl (hb hby at_91) rfl (by decide) 5 (by decide) (by decide) (by decide) (by decide) 5 (fun T11 h11 k11 b11 X11 e11 E11 g11 V11 => ?_)
  have ne_b1_b11 : b1 ≠ b11 := Nat.ne_of_lt (Nat.lt_of_lt_of_le F13.lt (Nat.le_of_eq g11.symm))
  have ne_b8_b11 : b8 ≠ b11 := Nat.ne_of_lt (Nat.lt_of_lt_of_le V8.lt (Nat.le_of_eq g11.symm))
  replace V11 : Arv Z h11 b11 k11 .int (5 : Int32) [(.int (0 : Int32)), (.int (0 : Int32)), (.int (0 : Int32)), (.int (0 : Int32)), (.int (0 : Int32))] (.int (0 : Int32)) := V11
  refine own_go (fun t k => XS.astore X11.here hx rfl (hb hby at_93) rfl rfl (l' := #[.val (.int p1), .val (.int p2), .val (.int p3), .val (.int p4), .val (.int p5), .val (.int p6), .val (.int x0), .val (.int x1), .val (.int x2), .val (.int x3), .val (.int x4), .val (.ref b1), .val (.ref b8), .val (.ref b11), .unset, .unset, .unset, .unset, .unset]) rfl k) ?_
  refine own_go (fun t k => XS.iconst X11.here hx rfl (hb hby at_95) k) ?_
  show own_Run p e below Φ (T11.setTop (mkF m 96 #[.val (.int p1), .val (.int p2), .val (.int p3), .val (.int p4), .val (.int p5), .val (.int p6), .val (.int x0), .val (.int x1), .val (.int x2), .val (.int x3), .val (.int x4), .val (.ref b1), .val (.ref b8), .val (.ref b11), .unset, .unset, .unset, .unset, .unset] [(.int (5 : Int32))]))
  have F16 : n0 ≤ h11.size := (Nat.le_trans F12 E11.1)
  have F17 : Arv Z h11 b1 k1 .int (5 : Int32) [(.int x0), (.int x1), (.int x2), (.int x3), (.int x4)] (.int (0 : Int32)) := (F13.ext E11)
  have F18 : Arv Z h11 b8 k8 .int (5 : Int32) [(.int (0 : Int32)), (.int (0 : Int32)), (.int (0 : Int32)), (.int (0 : Int32)), (.int (0 : Int32))] (.int (0 : Int32)) := (V8.ext E11)
  refine own_newP X11 hx hZ (hw _ (List.mem_of_getElem? (i := 1) rfl)) e11 (g := (mkF m 96 #[.val (.int p1), .val (.int p2), .val (.int p3), .val (.int p4), .val (.int p5), .val (.int p6), .val (.int x0), .val (.int x1), .val (.int x2), .val (.int x3), .val (.int x4), .val (.ref b1), .val (.ref b8), .val (.ref b11), .unset, .unset, .unset, .unset, .unset] [(.int (5 : Int32))])) rfl (hb hby at_96) rfl (by decide) 5 (by decide) (by decide) (by decide) (by decide) 5 (fun T15 h15 k15 b15 X15 e15 E15 g15 V15 => ?_)
  have ne_b1_b15 : b1 ≠ b15 := Nat.ne_of_lt (Nat.lt_of_lt_of_le F17.lt (Nat.le_of_eq g15.symm))
  have ne_b8_b15 : b8 ≠ b15 := Nat.ne_of_lt (Nat.lt_of_lt_of_le F18.lt (Nat.le_of_eq g15.symm))
  have ne_b11_b15 : b11 ≠ b15 := Nat.ne_of_lt (Nat.lt_of_lt_of_le V11.lt (Nat.le_of_eq g15.symm))
  replace V15 : Arv Z h15 b15 k15 .int (5 : Int32) [(.int (0 : Int32)), (.int (0 : Int32)), (.int (0 : Int32)), (.int (0 : Int32)), (.int (0 : Int32))] (.int (0 : Int32)) := V15
  refine own_go (fun t k => XS.astore X15.here hx rfl (hb hby at_98) rfl rfl (l' := #[.val (.int p1), .val (.int p2), .val (.int p3), .val (.int p4), .val (.int p5), .val (.int p6), .val (.int x0), .val (.int x1), .val (.int x2), .val (.int x3), .val (.int x4), .val (.ref b1), .val (.ref b8), .val (.ref b11), .val (.ref b15), .unset, .unset, .unset, .unset]) rfl k) ?_
  refine own_go (fun t k => XS.iconst X15.here hx rfl (hb hby at_100) k) ?_
  refine own_go (fun t k => XS.istore X15.here hx rfl (hb hby at_101) rfl (l' := #[.val (.int p1), .val (.int p2), .val (.int p3), .val (.int p4), .val (.int p5), .val (.int p6), .val (.int x0), .val (.int x1), .val (.int x2), .val (.int x3), .val (.int x4), .val (.ref b1), .val (.ref b8), .val (.ref b11), .val (.ref b15), .val (.int (0 : Int32)), .unset, .unset, .unset]) rfl k) ?_
  show own_Run p e below Φ (T15.setTop (mkF m 103 #[.val (.int p1), .val (.int p2), .val (.int p3), .val (.int p4), .val (.int p5), .val (.int p6), .val (.int x0), .val (.int x1), .val (.int x2), .val (.int x3), .val (.int x4), .val (.ref b1), .val (.ref b8), .val (.ref b11), .val (.ref b15), .val (.int (0 : Int32)), .unset, .unset, .unset] []))
  have hj0 := own_J0 (own_d x0 x1 x2 x3 x4)
  have hl0 : [Value.int (0 : Int32), .int (0 : Int32), .int (0 : Int32), .int (0 : Int32), .int (0 : Int32)].length = 5 := rfl
  have J132_20 : ∀ (k1_ : Int32) (us1 : List Value) (es1 : List Value) (fs1 : List Value) (T21 : State) (h21 : Heap) (l21 : List Loc) (c21 z21 : Nat), (Stand p l e room_1 s m #[(.int p1), (.int p2), (.int p3), (.int p4), (.int p5), (.int p6)] below meth c T21 l21 c21 z21) → (T21.heap = h21) → (Fr n0 l21) → (c21 ≤ 4) → (z21 ≤ 20) → (Arv Z h21 b1 k1 .int (5 : Int32) [(.int x0), (.int x1), (.int x2), (.int x3), (.int x4)] (.int (0 : Int32))) → (Arv Z h21 b8 k8 .int (5 : Int32) us1 (.int (0 : Int32))) → (Arv Z h21 b11 k11 .int (5 : Int32) es1 (.int (0 : Int32))) → (Arv Z h21 b15 k15 .int (5 : Int32) fs1 (.int (0 : Int32))) → (n0 ≤ h21.size) → (own_J (own_d x0 x1 x2 x3 x4) 1 k1_ us1 es1) → (fs1.length = 5) → own_Run p e below Φ (T21.setTop (mkF m 132 #[.val (.int p1), .val (.int p2), .val (.int p3), .val (.int p4), .val (.int p5), .val (.int p6), .val (.int x0), .val (.int x1), .val (.int x2), .val (.int x3), .val (.int x4), .val (.ref b1), .val (.ref b8), .val (.ref b11), .val (.ref b15), .val (.int k1_), .unset, .unset, .unset] [])) := by
    intro k1_ us1 es1 fs1 T21 h21 l21 c21 z21 X21 e21 N21 hc21 hs21 F22 F23 F24 F25 F26 hj1 hl1
    show own_Run p e below Φ (T21.setTop (mkF m 132 #[.val (.int p1), .val (.int p2), .val (.int p3), .val (.int p4), .val (.int p5), .val (.int p6), .val (.int x0), .val (.int x1), .val (.int x2), .val (.int x3), .val (.int x4), .val (.ref b1), .val (.ref b8), .val (.ref b11), .val (.ref b15), .val (.int k1_), .unset, .unset, .unset] []))
    have J161_27 : ∀ (k2_ : Int32) (us2 : List Value) (es2 : List Value) (fs2 : List Value) (T28 : State) (h28 : Heap) (l28 : List Loc) (c28 z28 : Nat), (Stand p l e room_1 s m #[(.int p1), (.int p2), (.int p3), (.int p4), (.int p5), (.int p6)] below meth c T28 l28 c28 z28) → (T28.heap = h28) → (Fr n0 l28) → (c28 ≤ 4) → (z28 ≤ 20) → (Arv Z h28 b1 k1 .int (5 : Int32) [(.int x0), (.int x1), (.int x2), (.int x3), (.int x4)] (.int (0 : Int32))) → (Arv Z h28 b8 k8 .int (5 : Int32) us2 (.int (0 : Int32))) → (Arv Z h28 b11 k11 .int (5 : Int32) es2 (.int (0 : Int32))) → (Arv Z h28 b15 k15 .int (5 : Int32) fs2 (.int (0 : Int32))) → (n0 ≤ h28.size) → (own_J (own_d x0 x1 x2 x3 x4) 2 k2_ us2 es2) → (fs2.length = 5) → own_Run p e below Φ (T28.setTop (mkF m 161 #[.val (.int p1), .val (.int p2), .val (.int p3), .val (.int p4), .val (.int p5), .val (.int p6), .val (.int x0), .val (.int x1), .val (.int x2), .val (.int x3), .val (.int x4), .val (.ref b1), .val (.ref b8), .val (.ref b11), .val (.ref b15), .val (.int k2_), .unset, .unset, .unset] [])) := by
      intro k2_ us2 es2 fs2 T28 h28 l28 c28 z28 X28 e28 N28 hc28 hs28 F29 F30 F31 F32 F33 hj2 hl2
      show own_Run p e below Φ (T28.setTop (mkF m 161 #[.val (.int p1), .val (.int p2), .val (.int p3), .val (.int p4), .val (.int p5), .val (.int p6), .val (.int x0), .val (.int x1), .val (.int x2), .val (.int x3), .val (.int x4), .val (.ref b1), .val (.ref b8), .val (.ref b11), .val (.ref b15), .val (.int k2_), .unset, .unset, .unset] []))
      have J190_34 : ∀ (k3_ : Int32) (us3 : List Value) (es3 : List Value) (fs3 : List Value) (T35 : State) (h35 : Heap) (l35 : List Loc) (c35 z35 : Nat), (Stand p l e room_1 s m #[(.int p1), (.int p2), (.int p3), (.int p4), (.int p5), (.int p6)] below meth c T35 l35 c35 z35) → (T35.heap = h35) → (Fr n0 l35) → (c35 ≤ 4) → (z35 ≤ 20) → (Arv Z h35 b1 k1 .int (5 : Int32) [(.int x0), (.int x1), (.int x2), (.int x3), (.int x4)] (.int (0 : Int32))) → (Arv Z h35 b8 k8 .int (5 : Int32) us3 (.int (0 : Int32))) → (Arv Z h35 b11 k11 .int (5 : Int32) es3 (.int (0 : Int32))) → (Arv Z h35 b15 k15 .int (5 : Int32) fs3 (.int (0 : Int32))) → (n0 ≤ h35.size) → (own_J (own_d x0 x1 x2 x3 x4) 3 k3_ us3 es3) → (fs3.length = 5) → own_Run p e below Φ (T35.setTop (mkF m 190 #[.val (.int p1), .val (.int p2), .val (.int p3), .val (.int p4), .val (.int p5), .val (.int p6), .val (.int x0), .val (.int x1), .val (.int x2), .val (.int x3), .val (.int x4), .val (.ref b1), .val (.ref b8), .val (.ref b11), .val (.ref b15), .val (.int k3_), .unset, .unset, .unset] [])) := by
        intro k3_ us3 es3 fs3 T35 h35 l35 c35 z35 X35 e35 N35 hc35 hs35 F36 F37 F38 F39 F40 hj3 hl3
        show own_Run p e below Φ (T35.setTop (mkF m 190 #[.val (.int p1), .val (.int p2), .val (.int p3), .val (.int p4), .val (.int p5), .val (.int p6), .val (.int x0), .val (.int x1), .val (.int x2), .val (.int x3), .val (.int x4), .val (.ref b1), .val (.ref b8), .val (.ref b11), .val (.ref b15), .val (.int k3_), .unset, .unset, .unset] []))
        have J220_41 : ∀ (k4_ : Int32) (us4 : List Value) (es4 : List Value) (fs4 : List Value) (T42 : State) (h42 : Heap) (l42 : List Loc) (c42 z42 : Nat), (Stand p l e room_1 s m #[(.int p1), (.int p2), (.int p3), (.int p4), (.int p5), (.int p6)] below meth c T42 l42 c42 z42) → (T42.heap = h42) → (Fr n0 l42) → (c42 ≤ 4) → (z42 ≤ 20) → (Arv Z h42 b1 k1 .int (5 : Int32) [(.int x0), (.int x1), (.int x2), (.int x3), (.int x4)] (.int (0 : Int32))) → (Arv Z h42 b8 k8 .int (5 : Int32) us4 (.int (0 : Int32))) → (Arv Z h42 b11 k11 .int (5 : Int32) es4 (.int (0 : Int32))) → (Arv Z h42 b15 k15 .int (5 : Int32) fs4 (.int (0 : Int32))) → (n0 ≤ h42.size) → (own_J (own_d x0 x1 x2 x3 x4) 4 k4_ us4 es4) → (fs4.length = 5) → own_Run p e below Φ (T42.setTop (mkF m 220 #[.val (.int p1), .val (.int p2), .val (.int p3), .val (.int p4), .val (.int p5), .val (.int p6), .val (.int x0), .val (.int x1), .val (.int x2), .val (.int x3), .val (.int x4), .val (.ref b1), .val (.ref b8), .val (.ref b11), .val (.ref b15), .val (.int k4_), .unset, .unset, .unset] [])) := by
          intro k4_ us4 es4 fs4 T42 h42 l42 c42 z42 X42 e42 N42 hc42 hs42 F43 F44 F45 F46 F47 hj4 hl4
          show own_Run p e below Φ (T42.setTop (mkF m 220 #[.val (.int p1), .val (.int p2), .val (.int p3), .val (.int p4), .val (.int p5), .val (.int p6), .val (.int x0), .val (.int x1), .val (.int x2), .val (.int x3), .val (.int x4), .val (.ref b1), .val (.ref b8), .val (.ref b11), .val (.ref b15), .val (.int k4_), .unset, .unset, .unset] []))
          have J250_48 : ∀ (k5_ : Int32) (us5 : List Value) (es5 : List Value) (fs5 : List Value) (T49 : State) (h49 : Heap) (l49 : List Loc) (c49 z49 : Nat), (Stand p l e room_1 s m #[(.int p1), (.int p2), (.int p3), (.int p4), (.int p5), (.int p6)] below meth c T49 l49 c49 z49) → (T49.heap = h49) → (Fr n0 l49) → (c49 ≤ 4) → (z49 ≤ 20) → (Arv Z h49 b1 k1 .int (5 : Int32) [(.int x0), (.int x1), (.int x2), (.int x3), (.int x4)] (.int (0 : Int32))) → (Arv Z h49 b8 k8 .int (5 : Int32) us5 (.int (0 : Int32))) → (Arv Z h49 b11 k11 .int (5 : Int32) es5 (.int (0 : Int32))) → (Arv Z h49 b15 k15 .int (5 : Int32) fs5 (.int (0 : Int32))) → (n0 ≤ h49.size) → (own_J (own_d x0 x1 x2 x3 x4) 5 k5_ us5 es5) → (fs5.length = 5) → own_Run p e below Φ (T49.setTop (mkF m 250 #[.val (.int p1), .val (.int p2), .val (.int p3), .val (.int p4), .val (.int p5), .val (.int p6), .val (.int x0), .val (.int x1), .val (.int x2), .val (.int x3), .val (.int x4), .val (.ref b1), .val (.ref b8), .val (.ref b11), .val (.ref b15), .val (.int k5_), .unset, .unset, .unset] [])) := by
            intro k5_ us5 es5 fs5 T49 h49 l49 c49 z49 X49 e49 N49 hc49 hs49 F50 F51 F52 F53 F54 hj5 hl5
            show own_Run p e below Φ (T49.setTop (mkF m 250 #[.val (.int p1), .val (.int p2), .val (.int p3), .val (.int p4), .val (.int p5), .val (.int p6), .val (.int x0), .val (.int x1), .val (.int x2), .val (.int x3), .val (.int x4), .val (.ref b1), .val (.ref b8), .val (.ref b11), .val (.ref b15), .val (.int k5_), .unset, .unset, .unset] []))
            obtain ⟨kn, sg, hI⟩ := hj5
            show own_Run p e below Φ (T49.setTop (mkF m 250 #[.val (.int p1), .val (.int p2), .val (.int p3), .val (.int p4), .val (.int p5), .val (.int p6), .val (.int x0), .val (.int x1), .val (.int x2), .val (.int x3), .val (.int x4), .val (.ref b1), .val (.ref b8), .val (.ref b11), .val (.ref b15), .val (.int k5_), .unset, .unset, .unset] []))
            obtain ⟨T55, h55, X55, e55, E55, A55, D55, -, st55⟩ := newO X49 hx hZ hown (hw _ (List.mem_of_getElem? (i := 2) rfl)) (hw _ (List.mem_of_getElem? (i := 3) rfl)) (hw _ (List.mem_of_getElem? (i := 4) rfl)) e49 (g := (mkF m 250 #[.val (.int p1), .val (.int p2), .val (.int p3), .val (.int p4), .val (.int p5), .val (.int p6), .val (.int x0), .val (.int x1), .val (.int x2), .val (.int x3), .val (.int x4), .val (.ref b1), .val (.ref b8), .val (.ref b11), .val (.ref b15), .val (.int k5_), .unset, .unset, .unset] [])) rfl (hb hby at_250) (own_le hc49 (by decide)) (own_le hs49 (by decide))
            refine own_go st55 ?_
            obtain ⟨b55, g55⟩ : ∃ z, z = h49.size := ⟨_, rfl⟩
            rw [← g55] at A55 D55 ⊢
            have ne_b1_b55 : b1 ≠ b55 := Nat.ne_of_lt (Nat.lt_of_lt_of_le F50.lt (Nat.le_of_eq g55.symm))
            have ne_b8_b55 : b8 ≠ b55 := Nat.ne_of_lt (Nat.lt_of_lt_of_le F51.lt (Nat.le_of_eq g55.symm))
            have ne_b11_b55 : b11 ≠ b55 := Nat.ne_of_lt (Nat.lt_of_lt_of_le F52.lt (Nat.le_of_eq g55.symm))
            have ne_b15_b55 : b15 ≠ b55 := Nat.ne_of_lt (Nat.lt_of_lt_of_le F53.lt (Nat.le_of_eq g55.symm))
            have G56 : Fld Z h55 b55 "com/example/glossyn/glossyn/search/Candidates" "documents" "[I" .null := D55 (Or.inr (hw _ (List.mem_of_getElem? (i := 12) rfl))) (ty := (.array .int)) (by decide)
            have G57 : Fld Z h55 b55 "com/example/glossyn/glossyn/search/Candidates" "lengths" "[I" .null := D55 (Or.inr (hw _ (List.mem_of_getElem? (i := 14) rfl))) (ty := (.array .int)) (by decide)
            have G58 : Fld Z h55 b55 "com/example/glossyn/glossyn/search/Candidates" "documentCount" "I" (.int (0 : Int32)) := D55 (Or.inr (hw _ (List.mem_of_getElem? (i := 16) rfl))) (ty := .int) (by decide)
            have G59 : Fld Z h55 b55 "com/example/glossyn/glossyn/search/Candidates" "averageLength" "D" (.double 0) := D55 (Or.inr (hw _ (List.mem_of_getElem? (i := 18) rfl))) (ty := .double) (by decide)
            refine own_go (fun t k => XS.dup X55.here hx rfl (hb hby at_253) rfl rfl k) ?_
            refine own_go (fun t k => XS.aload X55.here hx rfl (hb hby at_254) rfl rfl  k) ?_
            refine own_go (fun t k => XS.iconst X55.here hx rfl (hb hby at_256) k) ?_
            have F61 : n0 ≤ h55.size := (Nat.le_trans F54 E55.1)
            have F62 : Arv Z h55 b1 k1 .int (5 : Int32) [(.int x0), (.int x1), (.int x2), (.int x3), (.int x4)] (.int (0 : Int32)) := (F50.ext E55)
            have F63 : Arv Z h55 b8 k8 .int (5 : Int32) us5 (.int (0 : Int32)) := (F51.ext E55)
            have F64 : Arv Z h55 b11 k11 .int (5 : Int32) es5 (.int (0 : Int32)) := (F52.ext E55)
            have F65 : Arv Z h55 b15 k15 .int (5 : Int32) fs5 (.int (0 : Int32)) := (F53.ext E55)
            refine own_newP X55 hx hZ (hw _ (List.mem_of_getElem? (i := 1) rfl)) e55 (g := (mkF m 257 #[.val (.int p1), .val (.int p2), .val (.int p3), .val (.int p4), .val (.int p5), .val (.int p6), .val (.int x0), .val (.int x1), .val (.int x2), .val (.int x3), .val (.int x4), .val (.ref b1), .val (.ref b8), .val (.ref b11), .val (.ref b15), .val (.int k5_), .unset, .unset, .unset] [(.int (5 : Int32)), (.ref b1), (.ref b55), (.ref b55)])) rfl (hb hby at_257) rfl (by decide) 5 (by decide) (by decide) (own_le (Nat.add_le_add_right hc49 1) (by decide)) (own_le (Nat.add_le_add_right hs49 4) (by decide)) 5 (fun T60 h60 k60 b60 X60 e60 E60 g60 V60 => ?_)
            have ne_b1_b60 : b1 ≠ b60 := Nat.ne_of_lt (Nat.lt_of_lt_of_le F62.lt (Nat.le_of_eq g60.symm))
            have ne_b8_b60 : b8 ≠ b60 := Nat.ne_of_lt (Nat.lt_of_lt_of_le F63.lt (Nat.le_of_eq g60.symm))
            have ne_b11_b60 : b11 ≠ b60 := Nat.ne_of_lt (Nat.lt_of_lt_of_le F64.lt (Nat.le_of_eq g60.symm))
            have ne_b15_b60 : b15 ≠ b60 := Nat.ne_of_lt (Nat.lt_of_lt_of_le F65.lt (Nat.le_of_eq g60.symm))
            have ne_b55_b60 : b55 ≠ b60 := Nat.ne_of_lt (Nat.lt_of_lt_of_le A55.lt (Nat.le_of_eq g60.symm))
            replace V60 : Arv Z h60 b60 k60 .int (5 : Int32) [(.int (0 : Int32)), (.int (0 : Int32)), (.int (0 : Int32)), (.int (0 : Int32)), (.int (0 : Int32))] (.int (0 : Int32)) := V60
            show own_Run p e below Φ (T60.setTop (mkF m 259 #[.val (.int p1), .val (.int p2), .val (.int p3), .val (.int p4), .val (.int p5), .val (.int p6), .val (.int x0), .val (.int x1), .val (.int x2), .val (.int x3), .val (.int x4), .val (.ref b1), .val (.ref b8), .val (.ref b11), .val (.ref b15), .val (.int k5_), .unset, .unset, .unset] [(.ref b60), (.ref b1), (.ref b55), (.ref b55)]))
            refine own_go (fun t k => XS.iconst X60.here hx rfl (hb hby at_259) k) ?_
            refine own_go (fun t k => XS.dconst1 X60.here hx rfl (v := FP.l2d (1 : Int64)) (hb hby at_260) own_dc1 k) ?_
            have F67 : Exa Z h60 b55 "com/example/glossyn/glossyn/search/Candidates" := (A55.ext E60)
            have F68 : Fld Z h60 b55 "com/example/glossyn/glossyn/search/Candidates" "documents" "[I" .null := (G56.ext E60)
            have F69 : Fld Z h60 b55 "com/example/glossyn/glossyn/search/Candidates" "lengths" "[I" .null := (G57.ext E60)
            have F70 : Fld Z h60 b55 "com/example/glossyn/glossyn/search/Candidates" "documentCount" "I" (.int (0 : Int32)) := (G58.ext E60)
            have F71 : Fld Z h60 b55 "com/example/glossyn/glossyn/search/Candidates" "averageLength" "D" (.double 0) := (G59.ext E60)
            refine own_callI X60 hx hZ (y := (⟨"com/example/glossyn/glossyn/search/Candidates", "<init>", "([I[IID)V"⟩ : MethodName)) (W := 1) (a := b55) (argsL := [(.ref b1), (.ref b60), (.int (5 : Int32)), (.double (FP.l2d (1 : Int64)))]) (rest := [(.ref b55)]) rfl hown (hw _ (List.mem_of_getElem? (i := 5) rfl)) (hw _ (List.mem_of_getElem? (i := 6) rfl)) (hw _ (List.mem_of_getElem? (i := 7) rfl)) (by decide) (own_bk (rm_ca l Z a0 hw b55 b1 b60 (5 : Int32) (FP.l2d (1 : Int64)) h60 n0 F67 F68 F69 F70 F71 (Nat.le_trans F54 (Nat.le_of_eq g55.symm))) hZ (hw _ (List.mem_of_getElem? (i := 7) rfl)) (hw _ (List.mem_of_getElem? (i := 4) rfl)) (by decide) (by decide)) e60 (g := (mkF m 261 #[.val (.int p1), .val (.int p2), .val (.int p3), .val (.int p4), .val (.int p5), .val (.int p6), .val (.int x0), .val (.int x1), .val (.int x2), .val (.int x3), .val (.int x4), .val (.ref b1), .val (.ref b8), .val (.ref b11), .val (.ref b15), .val (.int k5_), .unset, .unset, .unset] [(.double (FP.l2d (1 : Int64))), (.int (5 : Int32)), (.ref b60), (.ref b1), (.ref b55), (.ref b55)])) rfl (by rw [hml]; rfl) (lenOf pd_0 rfl) rfl (by show 2 * 0 + _ ≤ _; exact Nat.le_of_eq rfl) (hb hby at_261) (own_le (Nat.add_le_add_right (Nat.add_le_add_right hc49 1) 1) (by decide)) (own_le (Nat.add_le_add_right (Nat.add_le_add_right hs49 4) 5) (by decide)) (fun v72 T72 h72 L72 X72 e72 q72 => ?_)
            obtain ⟨rfl, M72, K72, P72_0⟩ := q72
            have N72 := Fr.app N49 M72
            refine own_go (fun t k => XS.astore X72.here hx rfl (hb hby at_264) rfl rfl (l' := #[.val (.int p1), .val (.int p2), .val (.int p3), .val (.int p4), .val (.int p5), .val (.int p6), .val (.int x0), .val (.int x1), .val (.int x2), .val (.int x3), .val (.int x4), .val (.ref b1), .val (.ref b8), .val (.ref b11), .val (.ref b15), .val (.int k5_), .val (.ref b55), .unset, .unset]) rfl k) ?_
            have F74 : n0 ≤ h72.size := (Nat.le_trans (Nat.le_trans F61 E60.1) K72.1)
            have F75 : Arv Z h72 b1 k1 .int (5 : Int32) [(.int x0), (.int x1), (.int x2), (.int x3), (.int x4)] (.int (0 : Int32)) := ((F62.ext E60).keep K72 (ninS ne_b1_b55 nin0))
            have F76 : Arv Z h72 b8 k8 .int (5 : Int32) us5 (.int (0 : Int32)) := ((F63.ext E60).keep K72 (ninS ne_b8_b55 nin0))
            have F77 : Arv Z h72 b11 k11 .int (5 : Int32) es5 (.int (0 : Int32)) := ((F64.ext E60).keep K72 (ninS ne_b11_b55 nin0))
            have F78 : Arv Z h72 b15 k15 .int (5 : Int32) fs5 (.int (0 : Int32)) := ((F65.ext E60).keep K72 (ninS ne_b15_b55 nin0))
            have F79 : Exa Z h72 b55 "com/example/glossyn/glossyn/search/Candidates" := (F67.keep K72)
            have F80 : Arv Z h72 b60 k60 .int (5 : Int32) [(.int (0 : Int32)), (.int (0 : Int32)), (.int (0 : Int32)), (.int (0 : Int32)), (.int (0 : Int32))] (.int (0 : Int32)) := (V60.keep K72 (ninS (Ne.symm ne_b55_b60) nin0))
            obtain ⟨T73, h73, X73, e73, E73, A73, D73, -, st73⟩ := newO X72 hx hZ hown (hw _ (List.mem_of_getElem? (i := 19) rfl)) (hw _ (List.mem_of_getElem? (i := 20) rfl)) (hw _ (List.mem_of_getElem? (i := 21) rfl)) e72 (g := (mkF m 266 #[.val (.int p1), .val (.int p2), .val (.int p3), .val (.int p4), .val (.int p5), .val (.int p6), .val (.int x0), .val (.int x1), .val (.int x2), .val (.int x3), .val (.int x4), .val (.ref b1), .val (.ref b8), .val (.ref b11), .val (.ref b15), .val (.int k5_), .val (.ref b55), .unset, .unset] [])) rfl (hb hby at_266) (own_le (Nat.add_le_add_right (Nat.add_le_add_right (Nat.add_le_add_right hc49 1) 1) 0) (by decide)) (own_le (Nat.add_le_add_right (Nat.add_le_add_right (Nat.add_le_add_right hs49 4) 5) 0) (by decide))
            refine own_go st73 ?_
            obtain ⟨b73, g73⟩ : ∃ z, z = h72.size := ⟨_, rfl⟩
            rw [← g73] at A73 D73 ⊢
            have ne_b1_b73 : b1 ≠ b73 := Nat.ne_of_lt (Nat.lt_of_lt_of_le F75.lt (Nat.le_of_eq g73.symm))
            have ne_b8_b73 : b8 ≠ b73 := Nat.ne_of_lt (Nat.lt_of_lt_of_le F76.lt (Nat.le_of_eq g73.symm))
            have ne_b11_b73 : b11 ≠ b73 := Nat.ne_of_lt (Nat.lt_of_lt_of_le F77.lt (Nat.le_of_eq g73.symm))
            have ne_b15_b73 : b15 ≠ b73 := Nat.ne_of_lt (Nat.lt_of_lt_of_le F78.lt (Nat.le_of_eq g73.symm))
            have ne_b55_b73 : b55 ≠ b73 := Nat.ne_of_lt (Nat.lt_of_lt_of_le F79.lt (Nat.le_of_eq g73.symm))
            have ne_b60_b73 : b60 ≠ b73 := Nat.ne_of_lt (Nat.lt_of_lt_of_le F80.lt (Nat.le_of_eq g73.symm))
            have G81 : Fld Z h73 b73 "com/example/glossyn/glossyn/index/Postings" "documents" "[I" .null := D73 (Or.inr (hw _ (List.mem_of_getElem? (i := 27) rfl))) (ty := (.array .int)) (by decide)
            have G82 : Fld Z h73 b73 "com/example/glossyn/glossyn/index/Postings" "frequencies" "[I" .null := D73 (Or.inr (hw _ (List.mem_of_getElem? (i := 29) rfl))) (ty := (.array .int)) (by decide)
            have G83 : Fld Z h73 b73 "com/example/glossyn/glossyn/index/Postings" "size" "I" (.int (0 : Int32)) := D73 (Or.inr (hw _ (List.mem_of_getElem? (i := 31) rfl))) (ty := .int) (by decide)
            show own_Run p e below Φ (T73.setTop (mkF m 269 #[.val (.int p1), .val (.int p2), .val (.int p3), .val (.int p4), .val (.int p5), .val (.int p6), .val (.int x0), .val (.int x1), .val (.int x2), .val (.int x3), .val (.int x4), .val (.ref b1), .val (.ref b8), .val (.ref b11), .val (.ref b15), .val (.int k5_), .val (.ref b55), .unset, .unset] [(.ref b73)]))
            refine own_go (fun t k => XS.dup X73.here hx rfl (hb hby at_269) rfl rfl k) ?_
            refine own_go (fun t k => XS.aload X73.here hx rfl (hb hby at_270) rfl rfl  k) ?_
            refine own_go (fun t k => XS.aload X73.here hx rfl (hb hby at_272) rfl rfl  k) ?_
            refine own_go (fun t k => XS.iload X73.here hx rfl (hb hby at_274) rfl  k) ?_
            refine own_callI X73 hx hZ (y := (⟨"com/example/glossyn/glossyn/index/Postings", "<init>", "([I[II)V"⟩ : MethodName)) (W := 1) (a := b73) (argsL := [(.ref b8), (.ref b15), (.int k5_)]) (rest := [(.ref b73)]) rfl hown (hw _ (List.mem_of_getElem? (i := 22) rfl)) (hw _ (List.mem_of_getElem? (i := 23) rfl)) (hw _ (List.mem_of_getElem? (i := 24) rfl)) (by decide) (own_bk (rm_po l Z a0 hw b73 b8 b15 k5_ h73 n0 A73 G81 G82 G83 (Nat.le_trans F74 (Nat.le_of_eq g73.symm))) hZ (hw _ (List.mem_of_getElem? (i := 24) rfl)) (hw _ (List.mem_of_getElem? (i := 21) rfl)) (by decide) (by decide)) e73 (g := (mkF m 276 #[.val (.int p1), .val (.int p2), .val (.int p3), .val (.int p4), .val (.int p5), .val (.int p6), .val (.int x0), .val (.int x1), .val (.int x2), .val (.int x3), .val (.int x4), .val (.ref b1), .val (.ref b8), .val (.ref b11), .val (.ref b15), .val (.int k5_), .val (.ref b55), .unset, .unset] [(.int k5_), (.ref b15), (.ref b8), (.ref b73), (.ref b73)])) rfl (by rw [hml]; rfl) (lenOf pd_2 rfl) rfl (by show 2 * 0 + _ ≤ _; exact Nat.le_of_eq rfl) (hb hby at_276) (own_le (Nat.add_le_add_right (Nat.add_le_add_right (Nat.add_le_add_right (Nat.add_le_add_right hc49 1) 1) 0) 1) (by decide)) (own_le (Nat.add_le_add_right (Nat.add_le_add_right (Nat.add_le_add_right (Nat.add_le_add_right hs49 4) 5) 0) 3) (by decide)) (fun v84 T84 h84 L84 X84 e84 q84 => ?_)
            obtain ⟨rfl, M84, K84, P84_0, P84_1⟩ := q84
            have N84 := Fr.app N72 M84
            show own_Run p e below Φ (T84.setTop (mkF m 279 #[.val (.int p1), .val (.int p2), .val (.int p3), .val (.int p4), .val (.int p5), .val (.int p6), .val (.int x0), .val (.int x1), .val (.int x2), .val (.int x3), .val (.int x4), .val (.ref b1), .val (.ref b8), .val (.ref b11), .val (.ref b15), .val (.int k5_), .val (.ref b55), .unset, .unset] [(.ref b73)]))
            refine own_go (fun t k => XS.astore X84.here hx rfl (hb hby at_279) rfl rfl (l' := #[.val (.int p1), .val (.int p2), .val (.int p3), .val (.int p4), .val (.int p5), .val (.int p6), .val (.int x0), .val (.int x1), .val (.int x2), .val (.int x3), .val (.int x4), .val (.ref b1), .val (.ref b8), .val (.ref b11), .val (.ref b15), .val (.int k5_), .val (.ref b55), .val (.ref b73), .unset]) rfl k) ?_
            refine own_go (fun t k => XS.aload X84.here hx rfl (hb hby at_281) rfl rfl  k) ?_
            refine own_go (fun t k => XS.aload X84.here hx rfl (hb hby at_283) rfl rfl  k) ?_
            have F85 : Fld Z h84 b55 "com/example/glossyn/glossyn/search/Candidates" "documents" "[I" (.ref b1) := ((P72_0.ext E73).keep K84 (ninS ne_b55_b73 nin0))
            have F86 : Exa Z h84 b73 "com/example/glossyn/glossyn/index/Postings" := (A73.keep K84)
            have F87 : Arv Z h84 b1 k1 .int (5 : Int32) [(.int x0), (.int x1), (.int x2), (.int x3), (.int x4)] (.int (0 : Int32)) := ((F75.ext E73).keep K84 (ninS ne_b1_b73 nin0))
            have F88 : Arv Z h84 b8 k8 .int (5 : Int32) us5 (.int (0 : Int32)) := ((F76.ext E73).keep K84 (ninS ne_b8_b73 nin0))
            have F89 : n0 ≤ h84.size := (Nat.le_trans (Nat.le_trans F74 E73.1) K84.1)
            have F90 : Arv Z h84 b11 k11 .int (5 : Int32) es5 (.int (0 : Int32)) := ((F77.ext E73).keep K84 (ninS ne_b11_b73 nin0))
            have F91 : Arv Z h84 b15 k15 .int (5 : Int32) fs5 (.int (0 : Int32)) := ((F78.ext E73).keep K84 (ninS ne_b15_b73 nin0))
            have F92 : Exa Z h84 b55 "com/example/glossyn/glossyn/search/Candidates" := ((F79.ext E73).keep K84)
            have F93 : Arv Z h84 b60 k60 .int (5 : Int32) [(.int (0 : Int32)), (.int (0 : Int32)), (.int (0 : Int32)), (.int (0 : Int32)), (.int (0 : Int32))] (.int (0 : Int32)) := ((F80.ext E73).keep K84 (ninS ne_b60_b73 nin0))
            refine own_callV X84 hx hZ (y := (⟨"com/example/glossyn/glossyn/search/Candidates", "placesOf", "(Lcom/example/glossyn/glossyn/index/Postings;)[I"⟩ : MethodName)) (z := (⟨"com/example/glossyn/glossyn/search/Candidates", "placesOf", "(Lcom/example/glossyn/glossyn/index/Postings;)[I"⟩ : MethodName)) (W := 0) (a := b55) (argsL := [(.ref b73)]) (rest := []) hown (hw _ (List.mem_of_getElem? (i := 32) rfl)) (hw _ (List.mem_of_getElem? (i := 33) rfl)) (notFace_of_selects (args := #[]) (mvT hZ (hw _ (List.mem_of_getElem? (i := 35) rfl)))) (hw _ (List.mem_of_getElem? (i := 35) rfl)) (hw _ (List.mem_of_getElem? (i := 34) rfl)) (by decide) (own_bk (rm_pl l Z a0 hw b55 b73 b1 k1 b8 k8 k5_ us5 es5 kn sg x0 x1 x2 x3 x4 h84 n0 F85 F86 P84_1 P84_0 F87 F88 F89 hI (fun i j hi hj => own_inj (by omega) (by omega) (by omega) (by omega) hi hj)) hZ (hw _ (List.mem_of_getElem? (i := 36) rfl)) (hw _ (List.mem_of_getElem? (i := 4) rfl)) (by decide) (by decide)) e84 F92 (g := (mkF m 285 #[.val (.int p1), .val (.int p2), .val (.int p3), .val (.int p4), .val (.int p5), .val (.int p6), .val (.int x0), .val (.int x1), .val (.int x2), .val (.int x3), .val (.int x4), .val (.ref b1), .val (.ref b8), .val (.ref b11), .val (.ref b15), .val (.int k5_), .val (.ref b55), .val (.ref b73), .unset] [(.ref b73), (.ref b55)])) rfl (by rw [hml]; rfl) (lenOf pd_3 rfl) rfl (by show 2 * 0 + _ ≤ _; exact Nat.le_of_eq rfl) (hb hby at_285) (own_le (Nat.add_le_add_right (Nat.add_le_add_right (Nat.add_le_add_right (Nat.add_le_add_right (Nat.add_le_add_right hc49 1) 1) 0) 1) 0) (by decide)) (own_le (Nat.add_le_add_right (Nat.add_le_add_right (Nat.add_le_add_right (Nat.add_le_add_right (Nat.add_le_add_right hs49 4) 5) 0) 3) 0) (by decide)) (fun v94 T94 h94 L94 X94 e94 q94 => ?_)
            obtain ⟨rfl, M94, K94, P94_0⟩ := q94
            have N94 := Fr.app N84 M94
            obtain ⟨r94, gr94⟩ : ∃ z, z = h84.size := ⟨_, rfl⟩
            rw [← gr94] at P94_0 ⊢
            have ne_b1_r94 : b1 ≠ r94 := Nat.ne_of_lt (Nat.lt_of_lt_of_le F87.lt (Nat.le_of_eq gr94.symm))
            have ne_b8_r94 : b8 ≠ r94 := Nat.ne_of_lt (Nat.lt_of_lt_of_le F88.lt (Nat.le_of_eq gr94.symm))
            have ne_b11_r94 : b11 ≠ r94 := Nat.ne_of_lt (Nat.lt_of_lt_of_le F90.lt (Nat.le_of_eq gr94.symm))
            have ne_b15_r94 : b15 ≠ r94 := Nat.ne_of_lt (Nat.lt_of_lt_of_le F91.lt (Nat.le_of_eq gr94.symm))
            have ne_b55_r94 : b55 ≠ r94 := Nat.ne_of_lt (Nat.lt_of_lt_of_le F92.lt (Nat.le_of_eq gr94.symm))
            have ne_b60_r94 : b60 ≠ r94 := Nat.ne_of_lt (Nat.lt_of_lt_of_le F93.lt (Nat.le_of_eq gr94.symm))
            have ne_b73_r94 : b73 ≠ r94 := Nat.ne_of_lt (Nat.lt_of_lt_of_le F86.lt (Nat.le_of_eq gr94.symm))
            obtain ⟨kr, rs, VR, hrs⟩ := P94_0
            refine own_go (fun t k => XS.astore X94.here hx rfl (hb hby at_288) rfl rfl (l' := #[.val (.int p1), .val (.int p2), .val (.int p3), .val (.int p4), .val (.int p5), .val (.int p6), .val (.int x0), .val (.int x1), .val (.int x2), .val (.int x3), .val (.int x4), .val (.ref b1), .val (.ref b8), .val (.ref b11), .val (.ref b15), .val (.int k5_), .val (.ref b55), .val (.ref b73), .val (.ref r94)]) rfl k) ?_
            show own_Run p e below Φ (T94.setTop (mkF m 290 #[.val (.int p1), .val (.int p2), .val (.int p3), .val (.int p4), .val (.int p5), .val (.int p6), .val (.int x0), .val (.int x1), .val (.int x2), .val (.int x3), .val (.int x4), .val (.ref b1), .val (.ref b8), .val (.ref b11), .val (.ref b15), .val (.int k5_), .val (.ref b55), .val (.ref b73), .val (.ref r94)] []))
            refine own_go (fun t k => XS.aload X94.here hx rfl (hb hby at_290) rfl rfl  k) ?_
            refine own_arrlen X94 hx hZ e94 VR (g := (mkF m 292 #[.val (.int p1), .val (.int p2), .val (.int p3), .val (.int p4), .val (.int p5), .val (.int p6), .val (.int x0), .val (.int x1), .val (.int x2), .val (.int x3), .val (.int x4), .val (.ref b1), .val (.ref b8), .val (.ref b11), .val (.ref b15), .val (.int k5_), .val (.ref b55), .val (.ref b73), .val (.ref r94)] [(.ref r94)])) rfl rfl (hb hby at_292) ?_
            refine own_go (fun t k => XS.iload X94.here hx rfl (hb hby at_293) rfl  k) ?_
            refine own_go (fun t k => XS.icmpYes X94.here hx rfl (pc0 := 295) (pc' := 300) rfl (hb hby at_295) rfl (teq (rfl : k5_ = k5_)).1 (by decide) (by decide) k) ?_
            refine own_go (fun t k => XS.aload X94.here hx rfl (hb hby at_300) rfl rfl  k) ?_
            show own_Run p e below Φ (T94.setTop (mkF m 302 #[.val (.int p1), .val (.int p2), .val (.int p3), .val (.int p4), .val (.int p5), .val (.int p6), .val (.int x0), .val (.int x1), .val (.int x2), .val (.int x3), .val (.int x4), .val (.ref b1), .val (.ref b8), .val (.ref b11), .val (.ref b15), .val (.int k5_), .val (.ref b55), .val (.ref b73), .val (.ref r94)] [(.ref r94)]))
            refine own_go (fun t k => XS.aload X94.here hx rfl (hb hby at_302) rfl rfl  k) ?_
            refine own_go (fun t k => XS.iload X94.here hx rfl (hb hby at_304) rfl  k) ?_
            refine own_go (fun t k => XS.iconst X94.here hx rfl (hb hby at_306) k) ?_
            have F95 : Arv Z h94 b11 k11 .int (5 : Int32) es5 (.int (0 : Int32)) := (F90.keep K94 nin0)
            refine own_callS X94 hx hZ (y := (⟨"com/example/glossyn/glossyn/search/CandidatesPlacesOfPinLaw", "at", "([I[III)Z"⟩ : MethodName)) (W := 0) (argsL := [(.ref r94), (.ref b11), (.int k5_), (.int (0 : Int32))]) (rest := []) hown (hw _ (List.mem_of_getElem? (i := 47) rfl)) (hw _ (List.mem_of_getElem? (i := 48) rfl)) (hw _ (List.mem_of_getElem? (i := 49) rfl)) (hw _ (List.mem_of_getElem? (i := 50) rfl)) (by decide) (own_bk (rm_at l Z a0 hw r94 b11 k5_ (0 : Int32) kr rs k11 es5 h94 n0 VR F95 ⟨by decide, by decide⟩ (own_rd hI hrs (by decide))) hZ (hw _ (List.mem_of_getElem? (i := 50) rfl)) (hw _ (List.mem_of_getElem? (i := 49) rfl)) (by decide) (by decide)) e94 (g := (mkF m 307 #[.val (.int p1), .val (.int p2), .val (.int p3), .val (.int p4), .val (.int p5), .val (.int p6), .val (.int x0), .val (.int x1), .val (.int x2), .val (.int x3), .val (.int x4), .val (.ref b1), .val (.ref b8), .val (.ref b11), .val (.ref b15), .val (.int k5_), .val (.ref b55), .val (.ref b73), .val (.ref r94)] [(.int (0 : Int32)), (.int k5_), (.ref b11), (.ref r94)])) rfl (by rw [hml]; rfl) (lenOf pd_6 rfl) rfl (by show 2 * 0 + _ ≤ _; exact Nat.le_of_eq rfl) (hb hby at_307) (own_le (Nat.add_le_add_right (Nat.add_le_add_right (Nat.add_le_add_right (Nat.add_le_add_right (Nat.add_le_add_right (Nat.add_le_add_right hc49 1) 1) 0) 1) 0) 1) (by decide)) (own_le (Nat.add_le_add_right (Nat.add_le_add_right (Nat.add_le_add_right (Nat.add_le_add_right (Nat.add_le_add_right (Nat.add_le_add_right hs49 4) 5) 0) 3) 0) 5) (by decide)) (fun v96 T96 h96 L96 X96 e96 q96 => ?_)
            obtain ⟨rfl, M96, s96⟩ := q96
            replace e96 : T96.heap = h94 := e96.trans s96
            have N96 := Fr.app N94 M96
            refine own_go (fun t k => XS.ifNo X96.here hx rfl (hb hby at_310) rfl ((if0 _ _).trans (feq (by decide : ¬ ((1 : Int32) = (0 : Int32)))).1) k) ?_
            show own_Run p e below Φ (T96.setTop (mkF m 313 #[.val (.int p1), .val (.int p2), .val (.int p3), .val (.int p4), .val (.int p5), .val (.int p6), .val (.int x0), .val (.int x1), .val (.int x2), .val (.int x3), .val (.int x4), .val (.ref b1), .val (.ref b8), .val (.ref b11), .val (.ref b15), .val (.int k5_), .val (.ref b55), .val (.ref b73), .val (.ref r94)] []))
            refine own_go (fun t k => XS.aload X96.here hx rfl (hb hby at_313) rfl rfl  k) ?_
            refine own_go (fun t k => XS.aload X96.here hx rfl (hb hby at_315) rfl rfl  k) ?_
            refine own_go (fun t k => XS.iload X96.here hx rfl (hb hby at_317) rfl  k) ?_
            refine own_go (fun t k => XS.iconst X96.here hx rfl (hb hby at_319) k) ?_
            refine own_callS X96 hx hZ (y := (⟨"com/example/glossyn/glossyn/search/CandidatesPlacesOfPinLaw", "at", "([I[III)Z"⟩ : MethodName)) (W := 0) (argsL := [(.ref r94), (.ref b11), (.int k5_), (.int (1 : Int32))]) (rest := []) hown (hw _ (List.mem_of_getElem? (i := 47) rfl)) (hw _ (List.mem_of_getElem? (i := 48) rfl)) (hw _ (List.mem_of_getElem? (i := 49) rfl)) (hw _ (List.mem_of_getElem? (i := 50) rfl)) (by decide) (own_bk (rm_at l Z a0 hw r94 b11 k5_ (1 : Int32) kr rs k11 es5 h94 n0 VR F95 ⟨by decide, by decide⟩ (own_rd hI hrs (by decide))) hZ (hw _ (List.mem_of_getElem? (i := 50) rfl)) (hw _ (List.mem_of_getElem? (i := 49) rfl)) (by decide) (by decide)) e96 (g := (mkF m 320 #[.val (.int p1), .val (.int p2), .val (.int p3), .val (.int p4), .val (.int p5), .val (.int p6), .val (.int x0), .val (.int x1), .val (.int x2), .val (.int x3), .val (.int x4), .val (.ref b1), .val (.ref b8), .val (.ref b11), .val (.ref b15), .val (.int k5_), .val (.ref b55), .val (.ref b73), .val (.ref r94)] [(.int (1 : Int32)), (.int k5_), (.ref b11), (.ref r94)])) rfl (by rw [hml]; rfl) (lenOf pd_6 rfl) rfl (by show 2 * 0 + _ ≤ _; exact Nat.le_of_eq rfl) (hb hby at_320) (own_le (Nat.add_le_add_right (Nat.add_le_add_right (Nat.add_le_add_right (Nat.add_le_add_right (Nat.add_le_add_right (Nat.add_le_add_right (Nat.add_le_add_right hc49 1) 1) 0) 1) 0) 1) 0) (by decide)) (own_le (Nat.add_le_add_right (Nat.add_le_add_right (Nat.add_le_add_right (Nat.add_le_add_right (Nat.add_le_add_right (Nat.add_le_add_right (Nat.add_le_add_right hs49 4) 5) 0) 3) 0) 5) 0) (by decide)) (fun v97 T97 h97 L97 X97 e97 q97 => ?_)
            obtain ⟨rfl, M97, s97⟩ := q97
            replace e97 : T97.heap = h94 := e97.trans s97
            have N97 := Fr.app N96 M97
            show own_Run p e below Φ (T97.setTop (mkF m 323 #[.val (.int p1), .val (.int p2), .val (.int p3), .val (.int p4), .val (.int p5), .val (.int p6), .val (.int x0), .val (.int x1), .val (.int x2), .val (.int x3), .val (.int x4), .val (.ref b1), .val (.ref b8), .val (.ref b11), .val (.ref b15), .val (.int k5_), .val (.ref b55), .val (.ref b73), .val (.ref r94)] [(.int (1 : Int32))]))
            refine own_go (fun t k => XS.ifNo X97.here hx rfl (hb hby at_323) rfl ((if0 _ _).trans (feq (by decide : ¬ ((1 : Int32) = (0 : Int32)))).1) k) ?_
            refine own_go (fun t k => XS.aload X97.here hx rfl (hb hby at_326) rfl rfl  k) ?_
            refine own_go (fun t k => XS.aload X97.here hx rfl (hb hby at_328) rfl rfl  k) ?_
            refine own_go (fun t k => XS.iload X97.here hx rfl (hb hby at_330) rfl  k) ?_
            refine own_go (fun t k => XS.iconst X97.here hx rfl (hb hby at_332) k) ?_
            show own_Run p e below Φ (T97.setTop (mkF m 333 #[.val (.int p1), .val (.int p2), .val (.int p3), .val (.int p4), .val (.int p5), .val (.int p6), .val (.int x0), .val (.int x1), .val (.int x2), .val (.int x3), .val (.int x4), .val (.ref b1), .val (.ref b8), .val (.ref b11), .val (.ref b15), .val (.int k5_), .val (.ref b55), .val (.ref b73), .val (.ref r94)] [(.int (2 : Int32)), (.int k5_), (.ref b11), (.ref r94)]))
            refine own_callS X97 hx hZ (y := (⟨"com/example/glossyn/glossyn/search/CandidatesPlacesOfPinLaw", "at", "([I[III)Z"⟩ : MethodName)) (W := 0) (argsL := [(.ref r94), (.ref b11), (.int k5_), (.int (2 : Int32))]) (rest := []) hown (hw _ (List.mem_of_getElem? (i := 47) rfl)) (hw _ (List.mem_of_getElem? (i := 48) rfl)) (hw _ (List.mem_of_getElem? (i := 49) rfl)) (hw _ (List.mem_of_getElem? (i := 50) rfl)) (by decide) (own_bk (rm_at l Z a0 hw r94 b11 k5_ (2 : Int32) kr rs k11 es5 h94 n0 VR F95 ⟨by decide, by decide⟩ (own_rd hI hrs (by decide))) hZ (hw _ (List.mem_of_getElem? (i := 50) rfl)) (hw _ (List.mem_of_getElem? (i := 49) rfl)) (by decide) (by decide)) e97 (g := (mkF m 333 #[.val (.int p1), .val (.int p2), .val (.int p3), .val (.int p4), .val (.int p5), .val (.int p6), .val (.int x0), .val (.int x1), .val (.int x2), .val (.int x3), .val (.int x4), .val (.ref b1), .val (.ref b8), .val (.ref b11), .val (.ref b15), .val (.int k5_), .val (.ref b55), .val (.ref b73), .val (.ref r94)] [(.int (2 : Int32)), (.int k5_), (.ref b11), (.ref r94)])) rfl (by rw [hml]; rfl) (lenOf pd_6 rfl) rfl (by show 2 * 0 + _ ≤ _; exact Nat.le_of_eq rfl) (hb hby at_333) (own_le (Nat.add_le_add_right (Nat.add_le_add_right (Nat.add_le_add_right (Nat.add_le_add_right (Nat.add_le_add_right (Nat.add_le_add_right (Nat.add_le_add_right (Nat.add_le_add_right hc49 1) 1) 0) 1) 0) 1) 0) 0) (by decide)) (own_le (Nat.add_le_add_right (Nat.add_le_add_right (Nat.add_le_add_right (Nat.add_le_add_right (Nat.add_le_add_right (Nat.add_le_add_right (Nat.add_le_add_right (Nat.add_le_add_right hs49 4) 5) 0) 3) 0) 5) 0) 0) (by decide)) (fun v98 T98 h98 L98 X98 e98 q98 => ?_)
            obtain ⟨rfl, M98, s98⟩ := q98
            replace e98 : T98.heap = h94 := e98.trans s98
            have N98 := Fr.app N97 M98
            refine own_go (fun t k => XS.ifNo X98.here hx rfl (hb hby at_336) rfl ((if0 _ _).trans (feq (by decide : ¬ ((1 : Int32) = (0 : Int32)))).1) k) ?_
            refine own_go (fun t k => XS.aload X98.here hx rfl (hb hby at_339) rfl rfl  k) ?_
            refine own_go (fun t k => XS.aload X98.here hx rfl (hb hby at_341) rfl rfl  k) ?_
            refine own_go (fun t k => XS.iload X98.here hx rfl (hb hby at_343) rfl  k) ?_
            show own_Run p e below Φ (T98.setTop (mkF m 345 #[.val (.int p1), .val (.int p2), .val (.int p3), .val (.int p4), .val (.int p5), .val (.int p6), .val (.int x0), .val (.int x1), .val (.int x2), .val (.int x3), .val (.int x4), .val (.ref b1), .val (.ref b8), .val (.ref b11), .val (.ref b15), .val (.int k5_), .val (.ref b55), .val (.ref b73), .val (.ref r94)] [(.int k5_), (.ref b11), (.ref r94)]))
            refine own_go (fun t k => XS.iconst X98.here hx rfl (hb hby at_345) k) ?_
            refine own_callS X98 hx hZ (y := (⟨"com/example/glossyn/glossyn/search/CandidatesPlacesOfPinLaw", "at", "([I[III)Z"⟩ : MethodName)) (W := 0) (argsL := [(.ref r94), (.ref b11), (.int k5_), (.int (3 : Int32))]) (rest := []) hown (hw _ (List.mem_of_getElem? (i := 47) rfl)) (hw _ (List.mem_of_getElem? (i := 48) rfl)) (hw _ (List.mem_of_getElem? (i := 49) rfl)) (hw _ (List.mem_of_getElem? (i := 50) rfl)) (by decide) (own_bk (rm_at l Z a0 hw r94 b11 k5_ (3 : Int32) kr rs k11 es5 h94 n0 VR F95 ⟨by decide, by decide⟩ (own_rd hI hrs (by decide))) hZ (hw _ (List.mem_of_getElem? (i := 50) rfl)) (hw _ (List.mem_of_getElem? (i := 49) rfl)) (by decide) (by decide)) e98 (g := (mkF m 346 #[.val (.int p1), .val (.int p2), .val (.int p3), .val (.int p4), .val (.int p5), .val (.int p6), .val (.int x0), .val (.int x1), .val (.int x2), .val (.int x3), .val (.int x4), .val (.ref b1), .val (.ref b8), .val (.ref b11), .val (.ref b15), .val (.int k5_), .val (.ref b55), .val (.ref b73), .val (.ref r94)] [(.int (3 : Int32)), (.int k5_), (.ref b11), (.ref r94)])) rfl (by rw [hml]; rfl) (lenOf pd_6 rfl) rfl (by show 2 * 0 + _ ≤ _; exact Nat.le_of_eq rfl) (hb hby at_346) (own_le (Nat.add_le_add_right (Nat.add_le_add_right (Nat.add_le_add_right (Nat.add_le_add_right (Nat.add_le_add_right (Nat.add_le_add_right (Nat.add_le_add_right (Nat.add_le_add_right (Nat.add_le_add_right hc49 1) 1) 0) 1) 0) 1) 0) 0) 0) (by decide)) (own_le (Nat.add_le_add_right (Nat.add_le_add_right (Nat.add_le_add_right (Nat.add_le_add_right (Nat.add_le_add_right (Nat.add_le_add_right (Nat.add_le_add_right (Nat.add_le_add_right (Nat.add_le_add_right hs49 4) 5) 0) 3) 0) 5) 0) 0) 0) (by decide)) (fun v99 T99 h99 L99 X99 e99 q99 => ?_)
            obtain ⟨rfl, M99, s99⟩ := q99
            replace e99 : T99.heap = h94 := e99.trans s99
            have N99 := Fr.app N98 M99
            refine own_go (fun t k => XS.ifNo X99.here hx rfl (hb hby at_349) rfl ((if0 _ _).trans (feq (by decide : ¬ ((1 : Int32) = (0 : Int32)))).1) k) ?_
            refine own_go (fun t k => XS.aload X99.here hx rfl (hb hby at_352) rfl rfl  k) ?_
            refine own_go (fun t k => XS.aload X99.here hx rfl (hb hby at_354) rfl rfl  k) ?_
            show own_Run p e below Φ (T99.setTop (mkF m 356 #[.val (.int p1), .val (.int p2), .val (.int p3), .val (.int p4), .val (.int p5), .val (.int p6), .val (.int x0), .val (.int x1), .val (.int x2), .val (.int x3), .val (.int x4), .val (.ref b1), .val (.ref b8), .val (.ref b11), .val (.ref b15), .val (.int k5_), .val (.ref b55), .val (.ref b73), .val (.ref r94)] [(.ref b11), (.ref r94)]))
            refine own_go (fun t k => XS.iload X99.here hx rfl (hb hby at_356) rfl  k) ?_
            refine own_go (fun t k => XS.iconst X99.here hx rfl (hb hby at_358) k) ?_
            refine own_callS X99 hx hZ (y := (⟨"com/example/glossyn/glossyn/search/CandidatesPlacesOfPinLaw", "at", "([I[III)Z"⟩ : MethodName)) (W := 0) (argsL := [(.ref r94), (.ref b11), (.int k5_), (.int (4 : Int32))]) (rest := []) hown (hw _ (List.mem_of_getElem? (i := 47) rfl)) (hw _ (List.mem_of_getElem? (i := 48) rfl)) (hw _ (List.mem_of_getElem? (i := 49) rfl)) (hw _ (List.mem_of_getElem? (i := 50) rfl)) (by decide) (own_bk (rm_at l Z a0 hw r94 b11 k5_ (4 : Int32) kr rs k11 es5 h94 n0 VR F95 ⟨by decide, by decide⟩ (own_rd hI hrs (by decide))) hZ (hw _ (List.mem_of_getElem? (i := 50) rfl)) (hw _ (List.mem_of_getElem? (i := 49) rfl)) (by decide) (by decide)) e99 (g := (mkF m 359 #[.val (.int p1), .val (.int p2), .val (.int p3), .val (.int p4), .val (.int p5), .val (.int p6), .val (.int x0), .val (.int x1), .val (.int x2), .val (.int x3), .val (.int x4), .val (.ref b1), .val (.ref b8), .val (.ref b11), .val (.ref b15), .val (.int k5_), .val (.ref b55), .val (.ref b73), .val (.ref r94)] [(.int (4 : Int32)), (.int k5_), (.ref b11), (.ref r94)])) rfl (by rw [hml]; rfl) (lenOf pd_6 rfl) rfl (by show 2 * 0 + _ ≤ _; exact Nat.le_of_eq rfl) (hb hby at_359) (own_le (Nat.add_le_add_right (Nat.add_le_add_right (Nat.add_le_add_right (Nat.add_le_add_right (Nat.add_le_add_right (Nat.add_le_add_right (Nat.add_le_add_right (Nat.add_le_add_right (Nat.add_le_add_right (Nat.add_le_add_right hc49 1) 1) 0) 1) 0) 1) 0) 0) 0) 0) (by decide)) (own_le (Nat.add_le_add_right (Nat.add_le_add_right (Nat.add_le_add_right (Nat.add_le_add_right (Nat.add_le_add_right (Nat.add_le_add_right (Nat.add_le_add_right (Nat.add_le_add_right (Nat.add_le_add_right (Nat.add_le_add_right hs49 4) 5) 0) 3) 0) 5) 0) 0) 0) 0) (by decide)) (fun v100 T100 h100 L100 X100 e100 q100 => ?_)
            obtain ⟨rfl, M100, s100⟩ := q100
            replace e100 : T100.heap = h94 := e100.trans s100
            have N100 := Fr.app N99 M100
            refine own_go (fun t k => XS.ifNo X100.here hx rfl (hb hby at_362) rfl ((if0 _ _).trans (feq (by decide : ¬ ((1 : Int32) = (0 : Int32)))).1) k) ?_
            refine own_go (fun t k => XS.iconst X100.here hx rfl (hb hby at_365) k) ?_
            show own_Run p e below Φ (T100.setTop (mkF m 366 #[.val (.int p1), .val (.int p2), .val (.int p3), .val (.int p4), .val (.int p5), .val (.int p6), .val (.int x0), .val (.int x1), .val (.int x2), .val (.int x3), .val (.int x4), .val (.ref b1), .val (.ref b8), .val (.ref b11), .val (.ref b15), .val (.int k5_), .val (.ref b55), .val (.ref b73), .val (.ref r94)] [(.int (1 : Int32))]))
            refine own_go (fun t k => XS.goto X100.here hx rfl (pc0 := 366) (pc' := 370) rfl (hb hby at_366) (by decide) (by decide) k) ?_
            subst hΦ
            exact own_retN X100 hx (t := .boolean) Bd.returns (by simp) hlk (hb hby at_370) e100 ⟨rfl, N100⟩ (Nat.le_trans (Nat.add_le_add_right (Nat.add_le_add_right (Nat.add_le_add_right (Nat.add_le_add_right (Nat.add_le_add_right (Nat.add_le_add_right (Nat.add_le_add_right (Nat.add_le_add_right (Nat.add_le_add_right (Nat.add_le_add_right (Nat.add_le_add_right hc49 1) 1) 0) 1) 0) 1) 0) 0) 0) 0) 0) (by decide)) (Nat.le_trans (Nat.add_le_add_right (Nat.add_le_add_right (Nat.add_le_add_right (Nat.add_le_add_right (Nat.add_le_add_right (Nat.add_le_add_right (Nat.add_le_add_right (Nat.add_le_add_right (Nat.add_le_add_right (Nat.add_le_add_right (Nat.add_le_add_right hs49 4) 5) 0) 3) 0) 5) 0) 0) 0) 0) 0) (by decide))
          show own_Run p e below Φ (T42.setTop (mkF m 220 #[.val (.int p1), .val (.int p2), .val (.int p3), .val (.int p4), .val (.int p5), .val (.int p6), .val (.int x0), .val (.int x1), .val (.int x2), .val (.int x3), .val (.int x4), .val (.ref b1), .val (.ref b8), .val (.ref b11), .val (.ref b15), .val (.int k4_), .unset, .unset, .unset] []))
          refine own_go (fun t k => XS.iload X42.here hx rfl (hb hby at_220) rfl  k) ?_
          refine own_go (fun t k => XS.bipush X42.here hx rfl (hb hby at_222) k) ?_
          refine own_go (fun t k => XS.iand X42.here hx rfl (hb hby at_224) rfl k) ?_
          by_cases hc225 : (p6 &&& (16 : Int32)) = (0 : Int32)
          · refine own_go (fun t k => XS.ifYes X42.here hx rfl (pc0 := 225) (pc' := 250) rfl (hb hby at_225) rfl ((if0 _ _).trans (teq hc225).1) (by decide) (by decide) k) ?_
            exact J250_48 k4_ us4 es4 fs4 T42 h42 _ _ _ X42 e42 N42 hc42 hs42 F43 F44 F45 F46 F47 (own_J1 hj4) hl4
          · refine own_go (fun t k => XS.ifNo X42.here hx rfl (hb hby at_225) rfl ((if0 _ _).trans (feq hc225).1) k) ?_
            show own_Run p e below Φ (T42.setTop (mkF m 228 #[.val (.int p1), .val (.int p2), .val (.int p3), .val (.int p4), .val (.int p5), .val (.int p6), .val (.int x0), .val (.int x1), .val (.int x2), .val (.int x3), .val (.int x4), .val (.ref b1), .val (.ref b8), .val (.ref b11), .val (.ref b15), .val (.int k4_), .unset, .unset, .unset] []))
            refine own_go (fun t k => XS.aload X42.here hx rfl (hb hby at_228) rfl rfl  k) ?_
            refine own_go (fun t k => XS.iload X42.here hx rfl (hb hby at_230) rfl  k) ?_
            refine own_go (fun t k => XS.iload X42.here hx rfl (hb hby at_232) rfl  k) ?_
            refine own_iastore X42 hx hZ e42 F44 (j := k4_) (own_Jb hj4 (by decide)).1 k4_.toNatClampNeg rfl (own_Jb hj4 (by decide)).2.1 (g := (mkF m 234 #[.val (.int p1), .val (.int p2), .val (.int p3), .val (.int p4), .val (.int p5), .val (.int p6), .val (.int x0), .val (.int x1), .val (.int x2), .val (.int x3), .val (.int x4), .val (.ref b1), .val (.ref b8), .val (.ref b11), .val (.ref b15), .val (.int k4_), .unset, .unset, .unset] [(.int x4), (.int k4_), (.ref b8)])) rfl rfl (hb hby at_234) (fun T101 h101 X101 e101 W101 V101 => ?_)
            replace V101 : Arv Z h101 b8 k8 .int (5 : Int32) (List.set us4 k4_.toNatClampNeg (.int x4)) (.int (0 : Int32)) := V101
            have N101 := Fr.snoc X101 N42 (Nat.le_trans F9 (Nat.le_of_eq g8.symm))
            refine own_go (fun t k => XS.aload X101.here hx rfl (hb hby at_235) rfl rfl  k) ?_
            show own_Run p e below Φ (T101.setTop (mkF m 237 #[.val (.int p1), .val (.int p2), .val (.int p3), .val (.int p4), .val (.int p5), .val (.int p6), .val (.int x0), .val (.int x1), .val (.int x2), .val (.int x3), .val (.int x4), .val (.ref b1), .val (.ref b8), .val (.ref b11), .val (.ref b15), .val (.int k4_), .unset, .unset, .unset] [(.ref b11)]))
            refine own_go (fun t k => XS.iload X101.here hx rfl (hb hby at_237) rfl  k) ?_
            refine own_go (fun t k => XS.iconst X101.here hx rfl (hb hby at_239) k) ?_
            have F102 : Arv Z h101 b11 k11 .int (5 : Int32) es4 (.int (0 : Int32)) := (F45.other W101 (Ne.symm ne_b8_b11))
            refine own_iastore X101 hx hZ e101 F102 (j := k4_) (own_Jb hj4 (by decide)).1 k4_.toNatClampNeg rfl (own_Jb hj4 (by decide)).2.2 (g := (mkF m 240 #[.val (.int p1), .val (.int p2), .val (.int p3), .val (.int p4), .val (.int p5), .val (.int p6), .val (.int x0), .val (.int x1), .val (.int x2), .val (.int x3), .val (.int x4), .val (.ref b1), .val (.ref b8), .val (.ref b11), .val (.ref b15), .val (.int k4_), .unset, .unset, .unset] [(.int (4 : Int32)), (.int k4_), (.ref b11)])) rfl rfl (hb hby at_240) (fun T103 h103 X103 e103 W103 V103 => ?_)
            replace V103 : Arv Z h103 b11 k11 .int (5 : Int32) (List.set es4 k4_.toNatClampNeg (.int (4 : Int32))) (.int (0 : Int32)) := V103
            have N103 := Fr.snoc X103 N101 (Nat.le_trans F12 (Nat.le_of_eq g11.symm))
            refine own_go (fun t k => XS.aload X103.here hx rfl (hb hby at_241) rfl rfl  k) ?_
            refine own_go (fun t k => XS.iload X103.here hx rfl (hb hby at_243) rfl  k) ?_
            show own_Run p e below Φ (T103.setTop (mkF m 245 #[.val (.int p1), .val (.int p2), .val (.int p3), .val (.int p4), .val (.int p5), .val (.int p6), .val (.int x0), .val (.int x1), .val (.int x2), .val (.int x3), .val (.int x4), .val (.ref b1), .val (.ref b8), .val (.ref b11), .val (.ref b15), .val (.int k4_), .unset, .unset, .unset] [(.int k4_), (.ref b15)]))
            refine own_go (fun t k => XS.iconst X103.here hx rfl (hb hby at_245) k) ?_
            have F104 : Arv Z h103 b15 k15 .int (5 : Int32) fs4 (.int (0 : Int32)) := ((F46.other W101 (Ne.symm ne_b8_b15)).other W103 (Ne.symm ne_b11_b15))
            refine own_iastore X103 hx hZ e103 F104 (j := k4_) (own_Jb hj4 (by decide)).1 k4_.toNatClampNeg rfl (by rw [hl4]; exact own_lt5 (own_Jb hj4 (by decide)).1) (g := (mkF m 246 #[.val (.int p1), .val (.int p2), .val (.int p3), .val (.int p4), .val (.int p5), .val (.int p6), .val (.int x0), .val (.int x1), .val (.int x2), .val (.int x3), .val (.int x4), .val (.ref b1), .val (.ref b8), .val (.ref b11), .val (.ref b15), .val (.int k4_), .unset, .unset, .unset] [(.int (1 : Int32)), (.int k4_), (.ref b15)])) rfl rfl (hb hby at_246) (fun T105 h105 X105 e105 W105 V105 => ?_)
            replace V105 : Arv Z h105 b15 k15 .int (5 : Int32) (List.set fs4 k4_.toNatClampNeg (.int (1 : Int32))) (.int (0 : Int32)) := V105
            have N105 := Fr.snoc X105 N103 (Nat.le_trans F16 (Nat.le_of_eq g15.symm))
            refine own_go (fun t k => XS.iinc X105.here hx rfl (hb hby at_247) rfl (l' := #[.val (.int p1), .val (.int p2), .val (.int p3), .val (.int p4), .val (.int p5), .val (.int p6), .val (.int x0), .val (.int x1), .val (.int x2), .val (.int x3), .val (.int x4), .val (.ref b1), .val (.ref b8), .val (.ref b11), .val (.ref b15), .val (.int (k4_ + (1 : Int32))), .unset, .unset, .unset]) rfl k) ?_
            have F106 : Arv Z h105 b1 k1 .int (5 : Int32) [(.int x0), (.int x1), (.int x2), (.int x3), (.int x4)] (.int (0 : Int32)) := (((F43.other W101 ne_b1_b8).other W103 ne_b1_b11).other W105 ne_b1_b15)
            have F107 : Arv Z h105 b8 k8 .int (5 : Int32) (List.set us4 k4_.toNatClampNeg (.int x4)) (.int (0 : Int32)) := ((V101.other W103 ne_b8_b11).other W105 ne_b8_b15)
            have F108 : Arv Z h105 b11 k11 .int (5 : Int32) (List.set es4 k4_.toNatClampNeg (.int (4 : Int32))) (.int (0 : Int32)) := (V103.other W105 ne_b11_b15)
            have F109 : n0 ≤ h105.size := (Nat.le_trans (Nat.le_trans (Nat.le_trans F47 (Keep.of_wr W101).1) (Keep.of_wr W103).1) (Keep.of_wr W105).1)
            exact J250_48 (k4_ + (1 : Int32)) (List.set us4 k4_.toNatClampNeg (.int x4)) (List.set es4 k4_.toNatClampNeg (.int (4 : Int32))) (List.set fs4 k4_.toNatClampNeg (.int (1 : Int32))) T105 h105 _ _ _ X105 e105 N105 hc42 hs42 F106 F107 F108 V105 F109 (own_J2 hj4 (by decide) rfl (by decide)) (by rw [List.length_set]; exact hl4)
        show own_Run p e below Φ (T35.setTop (mkF m 190 #[.val (.int p1), .val (.int p2), .val (.int p3), .val (.int p4), .val (.int p5), .val (.int p6), .val (.int x0), .val (.int x1), .val (.int x2), .val (.int x3), .val (.int x4), .val (.ref b1), .val (.ref b8), .val (.ref b11), .val (.ref b15), .val (.int k3_), .unset, .unset, .unset] []))
        refine own_go (fun t k => XS.iload X35.here hx rfl (hb hby at_190) rfl  k) ?_
        refine own_go (fun t k => XS.bipush X35.here hx rfl (hb hby at_192) k) ?_
        refine own_go (fun t k => XS.iand X35.here hx rfl (hb hby at_194) rfl k) ?_
        show own_Run p e below Φ (T35.setTop (mkF m 195 #[.val (.int p1), .val (.int p2), .val (.int p3), .val (.int p4), .val (.int p5), .val (.int p6), .val (.int x0), .val (.int x1), .val (.int x2), .val (.int x3), .val (.int x4), .val (.ref b1), .val (.ref b8), .val (.ref b11), .val (.ref b15), .val (.int k3_), .unset, .unset, .unset] [(.int (p6 &&& (8 : Int32)))]))
        by_cases hc195 : (p6 &&& (8 : Int32)) = (0 : Int32)
        · refine own_go (fun t k => XS.ifYes X35.here hx rfl (pc0 := 195) (pc' := 220) rfl (hb hby at_195) rfl ((if0 _ _).trans (teq hc195).1) (by decide) (by decide) k) ?_
          exact J220_41 k3_ us3 es3 fs3 T35 h35 _ _ _ X35 e35 N35 hc35 hs35 F36 F37 F38 F39 F40 (own_J1 hj3) hl3
        · refine own_go (fun t k => XS.ifNo X35.here hx rfl (hb hby at_195) rfl ((if0 _ _).trans (feq hc195).1) k) ?_
          refine own_go (fun t k => XS.aload X35.here hx rfl (hb hby at_198) rfl rfl  k) ?_
          refine own_go (fun t k => XS.iload X35.here hx rfl (hb hby at_200) rfl  k) ?_
          refine own_go (fun t k => XS.iload X35.here hx rfl (hb hby at_202) rfl  k) ?_
          refine own_iastore X35 hx hZ e35 F37 (j := k3_) (own_Jb hj3 (by decide)).1 k3_.toNatClampNeg rfl (own_Jb hj3 (by decide)).2.1 (g := (mkF m 204 #[.val (.int p1), .val (.int p2), .val (.int p3), .val (.int p4), .val (.int p5), .val (.int p6), .val (.int x0), .val (.int x1), .val (.int x2), .val (.int x3), .val (.int x4), .val (.ref b1), .val (.ref b8), .val (.ref b11), .val (.ref b15), .val (.int k3_), .unset, .unset, .unset] [(.int x3), (.int k3_), (.ref b8)])) rfl rfl (hb hby at_204) (fun T110 h110 X110 e110 W110 V110 => ?_)
          replace V110 : Arv Z h110 b8 k8 .int (5 : Int32) (List.set us3 k3_.toNatClampNeg (.int x3)) (.int (0 : Int32)) := V110
          have N110 := Fr.snoc X110 N35 (Nat.le_trans F9 (Nat.le_of_eq g8.symm))
          show own_Run p e below Φ (T110.setTop (mkF m 205 #[.val (.int p1), .val (.int p2), .val (.int p3), .val (.int p4), .val (.int p5), .val (.int p6), .val (.int x0), .val (.int x1), .val (.int x2), .val (.int x3), .val (.int x4), .val (.ref b1), .val (.ref b8), .val (.ref b11), .val (.ref b15), .val (.int k3_), .unset, .unset, .unset] []))
          refine own_go (fun t k => XS.aload X110.here hx rfl (hb hby at_205) rfl rfl  k) ?_
          refine own_go (fun t k => XS.iload X110.here hx rfl (hb hby at_207) rfl  k) ?_
          refine own_go (fun t k => XS.iconst X110.here hx rfl (hb hby at_209) k) ?_
          have F111 : Arv Z h110 b11 k11 .int (5 : Int32) es3 (.int (0 : Int32)) := (F38.other W110 (Ne.symm ne_b8_b11))
          refine own_iastore X110 hx hZ e110 F111 (j := k3_) (own_Jb hj3 (by decide)).1 k3_.toNatClampNeg rfl (own_Jb hj3 (by decide)).2.2 (g := (mkF m 210 #[.val (.int p1), .val (.int p2), .val (.int p3), .val (.int p4), .val (.int p5), .val (.int p6), .val (.int x0), .val (.int x1), .val (.int x2), .val (.int x3), .val (.int x4), .val (.ref b1), .val (.ref b8), .val (.ref b11), .val (.ref b15), .val (.int k3_), .unset, .unset, .unset] [(.int (3 : Int32)), (.int k3_), (.ref b11)])) rfl rfl (hb hby at_210) (fun T112 h112 X112 e112 W112 V112 => ?_)
          replace V112 : Arv Z h112 b11 k11 .int (5 : Int32) (List.set es3 k3_.toNatClampNeg (.int (3 : Int32))) (.int (0 : Int32)) := V112
          have N112 := Fr.snoc X112 N110 (Nat.le_trans F12 (Nat.le_of_eq g11.symm))
          refine own_go (fun t k => XS.aload X112.here hx rfl (hb hby at_211) rfl rfl  k) ?_
          show own_Run p e below Φ (T112.setTop (mkF m 213 #[.val (.int p1), .val (.int p2), .val (.int p3), .val (.int p4), .val (.int p5), .val (.int p6), .val (.int x0), .val (.int x1), .val (.int x2), .val (.int x3), .val (.int x4), .val (.ref b1), .val (.ref b8), .val (.ref b11), .val (.ref b15), .val (.int k3_), .unset, .unset, .unset] [(.ref b15)]))
          refine own_go (fun t k => XS.iload X112.here hx rfl (hb hby at_213) rfl  k) ?_
          refine own_go (fun t k => XS.iconst X112.here hx rfl (hb hby at_215) k) ?_
          have F113 : Arv Z h112 b15 k15 .int (5 : Int32) fs3 (.int (0 : Int32)) := ((F39.other W110 (Ne.symm ne_b8_b15)).other W112 (Ne.symm ne_b11_b15))
          refine own_iastore X112 hx hZ e112 F113 (j := k3_) (own_Jb hj3 (by decide)).1 k3_.toNatClampNeg rfl (by rw [hl3]; exact own_lt5 (own_Jb hj3 (by decide)).1) (g := (mkF m 216 #[.val (.int p1), .val (.int p2), .val (.int p3), .val (.int p4), .val (.int p5), .val (.int p6), .val (.int x0), .val (.int x1), .val (.int x2), .val (.int x3), .val (.int x4), .val (.ref b1), .val (.ref b8), .val (.ref b11), .val (.ref b15), .val (.int k3_), .unset, .unset, .unset] [(.int (1 : Int32)), (.int k3_), (.ref b15)])) rfl rfl (hb hby at_216) (fun T114 h114 X114 e114 W114 V114 => ?_)
          replace V114 : Arv Z h114 b15 k15 .int (5 : Int32) (List.set fs3 k3_.toNatClampNeg (.int (1 : Int32))) (.int (0 : Int32)) := V114
          have N114 := Fr.snoc X114 N112 (Nat.le_trans F16 (Nat.le_of_eq g15.symm))
          refine own_go (fun t k => XS.iinc X114.here hx rfl (hb hby at_217) rfl (l' := #[.val (.int p1), .val (.int p2), .val (.int p3), .val (.int p4), .val (.int p5), .val (.int p6), .val (.int x0), .val (.int x1), .val (.int x2), .val (.int x3), .val (.int x4), .val (.ref b1), .val (.ref b8), .val (.ref b11), .val (.ref b15), .val (.int (k3_ + (1 : Int32))), .unset, .unset, .unset]) rfl k) ?_
          have F115 : Arv Z h114 b1 k1 .int (5 : Int32) [(.int x0), (.int x1), (.int x2), (.int x3), (.int x4)] (.int (0 : Int32)) := (((F36.other W110 ne_b1_b8).other W112 ne_b1_b11).other W114 ne_b1_b15)
          have F116 : Arv Z h114 b8 k8 .int (5 : Int32) (List.set us3 k3_.toNatClampNeg (.int x3)) (.int (0 : Int32)) := ((V110.other W112 ne_b8_b11).other W114 ne_b8_b15)
          have F117 : Arv Z h114 b11 k11 .int (5 : Int32) (List.set es3 k3_.toNatClampNeg (.int (3 : Int32))) (.int (0 : Int32)) := (V112.other W114 ne_b11_b15)
          have F118 : n0 ≤ h114.size := (Nat.le_trans (Nat.le_trans (Nat.le_trans F40 (Keep.of_wr W110).1) (Keep.of_wr W112).1) (Keep.of_wr W114).1)
          exact J220_41 (k3_ + (1 : Int32)) (List.set us3 k3_.toNatClampNeg (.int x3)) (List.set es3 k3_.toNatClampNeg (.int (3 : Int32))) (List.set fs3 k3_.toNatClampNeg (.int (1 : Int32))) T114 h114 _ _ _ X114 e114 N114 hc35 hs35 F115 F116 F117 V114 F118 (own_J2 hj3 (by decide) rfl (by decide)) (by rw [List.length_set]; exact hl3)
      show own_Run p e below Φ (T28.setTop (mkF m 161 #[.val (.int p1), .val (.int p2), .val (.int p3), .val (.int p4), .val (.int p5), .val (.int p6), .val (.int x0), .val (.int x1), .val (.int x2), .val (.int x3), .val (.int x4), .val (.ref b1), .val (.ref b8), .val (.ref b11), .val (.ref b15), .val (.int k2_), .unset, .unset, .unset] []))
      refine own_go (fun t k => XS.iload X28.here hx rfl (hb hby at_161) rfl  k) ?_
      refine own_go (fun t k => XS.iconst X28.here hx rfl (hb hby at_163) k) ?_
      show own_Run p e below Φ (T28.setTop (mkF m 164 #[.val (.int p1), .val (.int p2), .val (.int p3), .val (.int p4), .val (.int p5), .val (.int p6), .val (.int x0), .val (.int x1), .val (.int x2), .val (.int x3), .val (.int x4), .val (.ref b1), .val (.ref b8), .val (.ref b11), .val (.ref b15), .val (.int k2_), .unset, .unset, .unset] [(.int (4 : Int32)), (.int p6)]))
      refine own_go (fun t k => XS.iand X28.here hx rfl (hb hby at_164) rfl k) ?_
      by_cases hc165 : (p6 &&& (4 : Int32)) = (0 : Int32)
      · refine own_go (fun t k => XS.ifYes X28.here hx rfl (pc0 := 165) (pc' := 190) rfl (hb hby at_165) rfl ((if0 _ _).trans (teq hc165).1) (by decide) (by decide) k) ?_
        exact J190_34 k2_ us2 es2 fs2 T28 h28 _ _ _ X28 e28 N28 hc28 hs28 F29 F30 F31 F32 F33 (own_J1 hj2) hl2
      · refine own_go (fun t k => XS.ifNo X28.here hx rfl (hb hby at_165) rfl ((if0 _ _).trans (feq hc165).1) k) ?_
        refine own_go (fun t k => XS.aload X28.here hx rfl (hb hby at_168) rfl rfl  k) ?_
        refine own_go (fun t k => XS.iload X28.here hx rfl (hb hby at_170) rfl  k) ?_
        refine own_go (fun t k => XS.iload X28.here hx rfl (hb hby at_172) rfl  k) ?_
        show own_Run p e below Φ (T28.setTop (mkF m 174 #[.val (.int p1), .val (.int p2), .val (.int p3), .val (.int p4), .val (.int p5), .val (.int p6), .val (.int x0), .val (.int x1), .val (.int x2), .val (.int x3), .val (.int x4), .val (.ref b1), .val (.ref b8), .val (.ref b11), .val (.ref b15), .val (.int k2_), .unset, .unset, .unset] [(.int x2), (.int k2_), (.ref b8)]))
        refine own_iastore X28 hx hZ e28 F30 (j := k2_) (own_Jb hj2 (by decide)).1 k2_.toNatClampNeg rfl (own_Jb hj2 (by decide)).2.1 (g := (mkF m 174 #[.val (.int p1), .val (.int p2), .val (.int p3), .val (.int p4), .val (.int p5), .val (.int p6), .val (.int x0), .val (.int x1), .val (.int x2), .val (.int x3), .val (.int x4), .val (.ref b1), .val (.ref b8), .val (.ref b11), .val (.ref b15), .val (.int k2_), .unset, .unset, .unset] [(.int x2), (.int k2_), (.ref b8)])) rfl rfl (hb hby at_174) (fun T119 h119 X119 e119 W119 V119 => ?_)
        replace V119 : Arv Z h119 b8 k8 .int (5 : Int32) (List.set us2 k2_.toNatClampNeg (.int x2)) (.int (0 : Int32)) := V119
        have N119 := Fr.snoc X119 N28 (Nat.le_trans F9 (Nat.le_of_eq g8.symm))
        refine own_go (fun t k => XS.aload X119.here hx rfl (hb hby at_175) rfl rfl  k) ?_
        refine own_go (fun t k => XS.iload X119.here hx rfl (hb hby at_177) rfl  k) ?_
        refine own_go (fun t k => XS.iconst X119.here hx rfl (hb hby at_179) k) ?_
        have F120 : Arv Z h119 b11 k11 .int (5 : Int32) es2 (.int (0 : Int32)) := (F31.other W119 (Ne.symm ne_b8_b11))
        refine own_iastore X119 hx hZ e119 F120 (j := k2_) (own_Jb hj2 (by decide)).1 k2_.toNatClampNeg rfl (own_Jb hj2 (by decide)).2.2 (g := (mkF m 180 #[.val (.int p1), .val (.int p2), .val (.int p3), .val (.int p4), .val (.int p5), .val (.int p6), .val (.int x0), .val (.int x1), .val (.int x2), .val (.int x3), .val (.int x4), .val (.ref b1), .val (.ref b8), .val (.ref b11), .val (.ref b15), .val (.int k2_), .unset, .unset, .unset] [(.int (2 : Int32)), (.int k2_), (.ref b11)])) rfl rfl (hb hby at_180) (fun T121 h121 X121 e121 W121 V121 => ?_)
        replace V121 : Arv Z h121 b11 k11 .int (5 : Int32) (List.set es2 k2_.toNatClampNeg (.int (2 : Int32))) (.int (0 : Int32)) := V121
        have N121 := Fr.snoc X121 N119 (Nat.le_trans F12 (Nat.le_of_eq g11.symm))
        show own_Run p e below Φ (T121.setTop (mkF m 181 #[.val (.int p1), .val (.int p2), .val (.int p3), .val (.int p4), .val (.int p5), .val (.int p6), .val (.int x0), .val (.int x1), .val (.int x2), .val (.int x3), .val (.int x4), .val (.ref b1), .val (.ref b8), .val (.ref b11), .val (.ref b15), .val (.int k2_), .unset, .unset, .unset] []))
        refine own_go (fun t k => XS.aload X121.here hx rfl (hb hby at_181) rfl rfl  k) ?_
        refine own_go (fun t k => XS.iload X121.here hx rfl (hb hby at_183) rfl  k) ?_
        refine own_go (fun t k => XS.iconst X121.here hx rfl (hb hby at_185) k) ?_
        have F122 : Arv Z h121 b15 k15 .int (5 : Int32) fs2 (.int (0 : Int32)) := ((F32.other W119 (Ne.symm ne_b8_b15)).other W121 (Ne.symm ne_b11_b15))
        refine own_iastore X121 hx hZ e121 F122 (j := k2_) (own_Jb hj2 (by decide)).1 k2_.toNatClampNeg rfl (by rw [hl2]; exact own_lt5 (own_Jb hj2 (by decide)).1) (g := (mkF m 186 #[.val (.int p1), .val (.int p2), .val (.int p3), .val (.int p4), .val (.int p5), .val (.int p6), .val (.int x0), .val (.int x1), .val (.int x2), .val (.int x3), .val (.int x4), .val (.ref b1), .val (.ref b8), .val (.ref b11), .val (.ref b15), .val (.int k2_), .unset, .unset, .unset] [(.int (1 : Int32)), (.int k2_), (.ref b15)])) rfl rfl (hb hby at_186) (fun T123 h123 X123 e123 W123 V123 => ?_)
        replace V123 : Arv Z h123 b15 k15 .int (5 : Int32) (List.set fs2 k2_.toNatClampNeg (.int (1 : Int32))) (.int (0 : Int32)) := V123
        have N123 := Fr.snoc X123 N121 (Nat.le_trans F16 (Nat.le_of_eq g15.symm))
        refine own_go (fun t k => XS.iinc X123.here hx rfl (hb hby at_187) rfl (l' := #[.val (.int p1), .val (.int p2), .val (.int p3), .val (.int p4), .val (.int p5), .val (.int p6), .val (.int x0), .val (.int x1), .val (.int x2), .val (.int x3), .val (.int x4), .val (.ref b1), .val (.ref b8), .val (.ref b11), .val (.ref b15), .val (.int (k2_ + (1 : Int32))), .unset, .unset, .unset]) rfl k) ?_
        have F124 : Arv Z h123 b1 k1 .int (5 : Int32) [(.int x0), (.int x1), (.int x2), (.int x3), (.int x4)] (.int (0 : Int32)) := (((F29.other W119 ne_b1_b8).other W121 ne_b1_b11).other W123 ne_b1_b15)
        have F125 : Arv Z h123 b8 k8 .int (5 : Int32) (List.set us2 k2_.toNatClampNeg (.int x2)) (.int (0 : Int32)) := ((V119.other W121 ne_b8_b11).other W123 ne_b8_b15)
        have F126 : Arv Z h123 b11 k11 .int (5 : Int32) (List.set es2 k2_.toNatClampNeg (.int (2 : Int32))) (.int (0 : Int32)) := (V121.other W123 ne_b11_b15)
        have F127 : n0 ≤ h123.size := (Nat.le_trans (Nat.le_trans (Nat.le_trans F33 (Keep.of_wr W119).1) (Keep.of_wr W121).1) (Keep.of_wr W123).1)
        exact J190_34 (k2_ + (1 : Int32)) (List.set us2 k2_.toNatClampNeg (.int x2)) (List.set es2 k2_.toNatClampNeg (.int (2 : Int32))) (List.set fs2 k2_.toNatClampNeg (.int (1 : Int32))) T123 h123 _ _ _ X123 e123 N123 hc28 hs28 F124 F125 F126 V123 F127 (own_J2 hj2 (by decide) rfl (by decide)) (by rw [List.length_set]; exact hl2)
    show own_Run p e below Φ (T21.setTop (mkF m 132 #[.val (.int p1), .val (.int p2), .val (.int p3), .val (.int p4), .val (.int p5), .val (.int p6), .val (.int x0), .val (.int x1), .val (.int x2), .val (.int x3), .val (.int x4), .val (.ref b1), .val (.ref b8), .val (.ref b11), .val (.ref b15), .val (.int k1_), .unset, .unset, .unset] []))
    refine own_go (fun t k => XS.iload X21.here hx rfl (hb hby at_132) rfl  k) ?_
    show own_Run p e below Φ (T21.setTop (mkF m 134 #[.val (.int p1), .val (.int p2), .val (.int p3), .val (.int p4), .val (.int p5), .val (.int p6), .val (.int x0), .val (.int x1), .val (.int x2), .val (.int x3), .val (.int x4), .val (.ref b1), .val (.ref b8), .val (.ref b11), .val (.ref b15), .val (.int k1_), .unset, .unset, .unset] [(.int p6)]))
    refine own_go (fun t k => XS.iconst X21.here hx rfl (hb hby at_134) k) ?_
    refine own_go (fun t k => XS.iand X21.here hx rfl (hb hby at_135) rfl k) ?_
    by_cases hc136 : (p6 &&& (2 : Int32)) = (0 : Int32)
    · refine own_go (fun t k => XS.ifYes X21.here hx rfl (pc0 := 136) (pc' := 161) rfl (hb hby at_136) rfl ((if0 _ _).trans (teq hc136).1) (by decide) (by decide) k) ?_
      exact J161_27 k1_ us1 es1 fs1 T21 h21 _ _ _ X21 e21 N21 hc21 hs21 F22 F23 F24 F25 F26 (own_J1 hj1) hl1
    · refine own_go (fun t k => XS.ifNo X21.here hx rfl (hb hby at_136) rfl ((if0 _ _).trans (feq hc136).1) k) ?_
      refine own_go (fun t k => XS.aload X21.here hx rfl (hb hby at_139) rfl rfl  k) ?_
      refine own_go (fun t k => XS.iload X21.here hx rfl (hb hby at_141) rfl  k) ?_
      show own_Run p e below Φ (T21.setTop (mkF m 143 #[.val (.int p1), .val (.int p2), .val (.int p3), .val (.int p4), .val (.int p5), .val (.int p6), .val (.int x0), .val (.int x1), .val (.int x2), .val (.int x3), .val (.int x4), .val (.ref b1), .val (.ref b8), .val (.ref b11), .val (.ref b15), .val (.int k1_), .unset, .unset, .unset] [(.int k1_), (.ref b8)]))
      refine own_go (fun t k => XS.iload X21.here hx rfl (hb hby at_143) rfl  k) ?_
      refine own_iastore X21 hx hZ e21 F23 (j := k1_) (own_Jb hj1 (by decide)).1 k1_.toNatClampNeg rfl (own_Jb hj1 (by decide)).2.1 (g := (mkF m 145 #[.val (.int p1), .val (.int p2), .val (.int p3), .val (.int p4), .val (.int p5), .val (.int p6), .val (.int x0), .val (.int x1), .val (.int x2), .val (.int x3), .val (.int x4), .val (.ref b1), .val (.ref b8), .val (.ref b11), .val (.ref b15), .val (.int k1_), .unset, .unset, .unset] [(.int x1), (.int k1_), (.ref b8)])) rfl rfl (hb hby at_145) (fun T128 h128 X128 e128 W128 V128 => ?_)
      replace V128 : Arv Z h128 b8 k8 .int (5 : Int32) (List.set us1 k1_.toNatClampNeg (.int x1)) (.int (0 : Int32)) := V128
      have N128 := Fr.snoc X128 N21 (Nat.le_trans F9 (Nat.le_of_eq g8.symm))
      refine own_go (fun t k => XS.aload X128.here hx rfl (hb hby at_146) rfl rfl  k) ?_
      refine own_go (fun t k => XS.iload X128.here hx rfl (hb hby at_148) rfl  k) ?_
      refine own_go (fun t k => XS.iconst X128.here hx rfl (hb hby at_150) k) ?_
      show own_Run p e below Φ (T128.setTop (mkF m 151 #[.val (.int p1), .val (.int p2), .val (.int p3), .val (.int p4), .val (.int p5), .val (.int p6), .val (.int x0), .val (.int x1), .val (.int x2), .val (.int x3), .val (.int x4), .val (.ref b1), .val (.ref b8), .val (.ref b11), .val (.ref b15), .val (.int k1_), .unset, .unset, .unset] [(.int (1 : Int32)), (.int k1_), (.ref b11)]))
      have F129 : Arv Z h128 b11 k11 .int (5 : Int32) es1 (.int (0 : Int32)) := (F24.other W128 (Ne.symm ne_b8_b11))
      refine own_iastore X128 hx hZ e128 F129 (j := k1_) (own_Jb hj1 (by decide)).1 k1_.toNatClampNeg rfl (own_Jb hj1 (by decide)).2.2 (g := (mkF m 151 #[.val (.int p1), .val (.int p2), .val (.int p3), .val (.int p4), .val (.int p5), .val (.int p6), .val (.int x0), .val (.int x1), .val (.int x2), .val (.int x3), .val (.int x4), .val (.ref b1), .val (.ref b8), .val (.ref b11), .val (.ref b15), .val (.int k1_), .unset, .unset, .unset] [(.int (1 : Int32)), (.int k1_), (.ref b11)])) rfl rfl (hb hby at_151) (fun T130 h130 X130 e130 W130 V130 => ?_)
      replace V130 : Arv Z h130 b11 k11 .int (5 : Int32) (List.set es1 k1_.toNatClampNeg (.int (1 : Int32))) (.int (0 : Int32)) := V130
      have N130 := Fr.snoc X130 N128 (Nat.le_trans F12 (Nat.le_of_eq g11.symm))
      refine own_go (fun t k => XS.aload X130.here hx rfl (hb hby at_152) rfl rfl  k) ?_
      refine own_go (fun t k => XS.iload X130.here hx rfl (hb hby at_154) rfl  k) ?_
      refine own_go (fun t k => XS.iconst X130.here hx rfl (hb hby at_156) k) ?_
      have F131 : Arv Z h130 b15 k15 .int (5 : Int32) fs1 (.int (0 : Int32)) := ((F25.other W128 (Ne.symm ne_b8_b15)).other W130 (Ne.symm ne_b11_b15))
      refine own_iastore X130 hx hZ e130 F131 (j := k1_) (own_Jb hj1 (by decide)).1 k1_.toNatClampNeg rfl (by rw [hl1]; exact own_lt5 (own_Jb hj1 (by decide)).1) (g := (mkF m 157 #[.val (.int p1), .val (.int p2), .val (.int p3), .val (.int p4), .val (.int p5), .val (.int p6), .val (.int x0), .val (.int x1), .val (.int x2), .val (.int x3), .val (.int x4), .val (.ref b1), .val (.ref b8), .val (.ref b11), .val (.ref b15), .val (.int k1_), .unset, .unset, .unset] [(.int (1 : Int32)), (.int k1_), (.ref b15)])) rfl rfl (hb hby at_157) (fun T132 h132 X132 e132 W132 V132 => ?_)
      replace V132 : Arv Z h132 b15 k15 .int (5 : Int32) (List.set fs1 k1_.toNatClampNeg (.int (1 : Int32))) (.int (0 : Int32)) := V132
      have N132 := Fr.snoc X132 N130 (Nat.le_trans F16 (Nat.le_of_eq g15.symm))
      show own_Run p e below Φ (T132.setTop (mkF m 158 #[.val (.int p1), .val (.int p2), .val (.int p3), .val (.int p4), .val (.int p5), .val (.int p6), .val (.int x0), .val (.int x1), .val (.int x2), .val (.int x3), .val (.int x4), .val (.ref b1), .val (.ref b8), .val (.ref b11), .val (.ref b15), .val (.int k1_), .unset, .unset, .unset] []))
      refine own_go (fun t k => XS.iinc X132.here hx rfl (hb hby at_158) rfl (l' := #[.val (.int p1), .val (.int p2), .val (.int p3), .val (.int p4), .val (.int p5), .val (.int p6), .val (.int x0), .val (.int x1), .val (.int x2), .val (.int x3), .val (.int x4), .val (.ref b1), .val (.ref b8), .val (.ref b11), .val (.ref b15), .val (.int (k1_ + (1 : Int32))), .unset, .unset, .unset]) rfl k) ?_
      have F133 : Arv Z h132 b1 k1 .int (5 : Int32) [(.int x0), (.int x1), (.int x2), (.int x3), (.int x4)] (.int (0 : Int32)) := (((F22.other W128 ne_b1_b8).other W130 ne_b1_b11).other W132 ne_b1_b15)
      have F134 : Arv Z h132 b8 k8 .int (5 : Int32) (List.set us1 k1_.toNatClampNeg (.int x1)) (.int (0 : Int32)) := ((V128.other W130 ne_b8_b11).other W132 ne_b8_b15)
      have F135 : Arv Z h132 b11 k11 .int (5 : Int32) (List.set es1 k1_.toNatClampNeg (.int (1 : Int32))) (.int (0 : Int32)) := (V130.other W132 ne_b11_b15)
      have F136 : n0 ≤ h132.size := (Nat.le_trans (Nat.le_trans (Nat.le_trans F26 (Keep.of_wr W128).1) (Keep.of_wr W130).1) (Keep.of_wr W132).1)
      exact J161_27 (k1_ + (1 : Int32)) (List.set us1 k1_.toNatClampNeg (.int x1)) (List.set es1 k1_.toNatClampNeg (.int (1 : Int32))) (List.set fs1 k1_.toNatClampNeg (.int (1 : Int32))) T132 h132 _ _ _ X132 e132 N132 hc21 hs21 F133 F134 F135 V132 F136 (own_J2 hj1 (by decide) rfl (by decide)) (by rw [List.length_set]; exact hl1)
  show own_Run p e below Φ (T15.setTop (mkF m 103 #[.val (.int p1), .val (.int p2), .val (.int p3), .val (.int p4), .val (.int p5), .val (.int p6), .val (.int x0), .val (.int x1), .val (.int x2), .val (.int x3), .val (.int x4), .val (.ref b1), .val (.ref b8), .val (.ref b11), .val (.ref b15), .val (.int (0 : Int32)), .unset, .unset, .unset] []))
  refine own_go (fun t k => XS.iload X15.here hx rfl (hb hby at_103) rfl  k) ?_
  refine own_go (fun t k => XS.iconst X15.here hx rfl (hb hby at_105) k) ?_
  refine own_go (fun t k => XS.iand X15.here hx rfl (hb hby at_106) rfl k) ?_
  by_cases hc107 : (p6 &&& (1 : Int32)) = (0 : Int32)
  · refine own_go (fun t k => XS.ifYes X15.here hx rfl (pc0 := 107) (pc' := 132) rfl (hb hby at_107) rfl ((if0 _ _).trans (teq hc107).1) (by decide) (by decide) k) ?_
    have F137 : Arv Z h15 b1 k1 .int (5 : Int32) [(.int x0), (.int x1), (.int x2), (.int x3), (.int x4)] (.int (0 : Int32)) := (F17.ext E15)
    have F138 : Arv Z h15 b8 k8 .int (5 : Int32) [(.int (0 : Int32)), (.int (0 : Int32)), (.int (0 : Int32)), (.int (0 : Int32)), (.int (0 : Int32))] (.int (0 : Int32)) := (F18.ext E15)
    have F139 : Arv Z h15 b11 k11 .int (5 : Int32) [(.int (0 : Int32)), (.int (0 : Int32)), (.int (0 : Int32)), (.int (0 : Int32)), (.int (0 : Int32))] (.int (0 : Int32)) := (V11.ext E15)
    have F140 : n0 ≤ h15.size := (Nat.le_trans F16 E15.1)
    exact J132_20 (0 : Int32) [(.int (0 : Int32)), (.int (0 : Int32)), (.int (0 : Int32)), (.int (0 : Int32)), (.int (0 : Int32))] [(.int (0 : Int32)), (.int (0 : Int32)), (.int (0 : Int32)), (.int (0 : Int32)), (.int (0 : Int32))] [(.int (0 : Int32)), (.int (0 : Int32)), (.int (0 : Int32)), (.int (0 : Int32)), (.int (0 : Int32))] T15 h15 _ _ _ X15 e15 N7 (by decide) (by decide) F137 F138 F139 V15 F140 (own_J1 hj0) hl0
  · refine own_go (fun t k => XS.ifNo X15.here hx rfl (hb hby at_107) rfl ((if0 _ _).trans (feq hc107).1) k) ?_
    refine own_go (fun t k => XS.aload X15.here hx rfl (hb hby at_110) rfl rfl  k) ?_
    show own_Run p e below Φ (T15.setTop (mkF m 112 #[.val (.int p1), .val (.int p2), .val (.int p3), .val (.int p4), .val (.int p5), .val (.int p6), .val (.int x0), .val (.int x1), .val (.int x2), .val (.int x3), .val (.int x4), .val (.ref b1), .val (.ref b8), .val (.ref b11), .val (.ref b15), .val (.int (0 : Int32)), .unset, .unset, .unset] [(.ref b8)]))
    refine own_go (fun t k => XS.iload X15.here hx rfl (hb hby at_112) rfl  k) ?_
    refine own_go (fun t k => XS.iload X15.here hx rfl (hb hby at_114) rfl  k) ?_
    have F141 : Arv Z h15 b8 k8 .int (5 : Int32) [(.int (0 : Int32)), (.int (0 : Int32)), (.int (0 : Int32)), (.int (0 : Int32)), (.int (0 : Int32))] (.int (0 : Int32)) := (F18.ext E15)
    refine own_iastore X15 hx hZ e15 F141 (j := (0 : Int32)) (own_Jb hj0 (by decide)).1 (0 : Int32).toNatClampNeg rfl (own_Jb hj0 (by decide)).2.1 (g := (mkF m 116 #[.val (.int p1), .val (.int p2), .val (.int p3), .val (.int p4), .val (.int p5), .val (.int p6), .val (.int x0), .val (.int x1), .val (.int x2), .val (.int x3), .val (.int x4), .val (.ref b1), .val (.ref b8), .val (.ref b11), .val (.ref b15), .val (.int (0 : Int32)), .unset, .unset, .unset] [(.int x0), (.int (0 : Int32)), (.ref b8)])) rfl rfl (hb hby at_116) (fun T142 h142 X142 e142 W142 V142 => ?_)
    replace V142 : Arv Z h142 b8 k8 .int (5 : Int32) (List.set [(.int (0 : Int32)), (.int (0 : Int32)), (.int (0 : Int32)), (.int (0 : Int32)), (.int (0 : Int32))] (0 : Int32).toNatClampNeg (.int x0)) (.int (0 : Int32)) := V142
    have N142 := Fr.snoc X142 N7 (Nat.le_trans F9 (Nat.le_of_eq g8.symm))
    refine own_go (fun t k => XS.aload X142.here hx rfl (hb hby at_117) rfl rfl  k) ?_
    refine own_go (fun t k => XS.iload X142.here hx rfl (hb hby at_119) rfl  k) ?_
    show own_Run p e below Φ (T142.setTop (mkF m 121 #[.val (.int p1), .val (.int p2), .val (.int p3), .val (.int p4), .val (.int p5), .val (.int p6), .val (.int x0), .val (.int x1), .val (.int x2), .val (.int x3), .val (.int x4), .val (.ref b1), .val (.ref b8), .val (.ref b11), .val (.ref b15), .val (.int (0 : Int32)), .unset, .unset, .unset] [(.int (0 : Int32)), (.ref b11)]))
    refine own_go (fun t k => XS.iconst X142.here hx rfl (hb hby at_121) k) ?_
    have F143 : Arv Z h142 b11 k11 .int (5 : Int32) [(.int (0 : Int32)), (.int (0 : Int32)), (.int (0 : Int32)), (.int (0 : Int32)), (.int (0 : Int32))] (.int (0 : Int32)) := ((V11.ext E15).other W142 (Ne.symm ne_b8_b11))
    refine own_iastore X142 hx hZ e142 F143 (j := (0 : Int32)) (own_Jb hj0 (by decide)).1 (0 : Int32).toNatClampNeg rfl (own_Jb hj0 (by decide)).2.2 (g := (mkF m 122 #[.val (.int p1), .val (.int p2), .val (.int p3), .val (.int p4), .val (.int p5), .val (.int p6), .val (.int x0), .val (.int x1), .val (.int x2), .val (.int x3), .val (.int x4), .val (.ref b1), .val (.ref b8), .val (.ref b11), .val (.ref b15), .val (.int (0 : Int32)), .unset, .unset, .unset] [(.int (0 : Int32)), (.int (0 : Int32)), (.ref b11)])) rfl rfl (hb hby at_122) (fun T144 h144 X144 e144 W144 V144 => ?_)
    replace V144 : Arv Z h144 b11 k11 .int (5 : Int32) (List.set [(.int (0 : Int32)), (.int (0 : Int32)), (.int (0 : Int32)), (.int (0 : Int32)), (.int (0 : Int32))] (0 : Int32).toNatClampNeg (.int (0 : Int32))) (.int (0 : Int32)) := V144
    have N144 := Fr.snoc X144 N142 (Nat.le_trans F12 (Nat.le_of_eq g11.symm))
    refine own_go (fun t k => XS.aload X144.here hx rfl (hb hby at_123) rfl rfl  k) ?_
    refine own_go (fun t k => XS.iload X144.here hx rfl (hb hby at_125) rfl  k) ?_
    refine own_go (fun t k => XS.iconst X144.here hx rfl (hb hby at_127) k) ?_
    show own_Run p e below Φ (T144.setTop (mkF m 128 #[.val (.int p1), .val (.int p2), .val (.int p3), .val (.int p4), .val (.int p5), .val (.int p6), .val (.int x0), .val (.int x1), .val (.int x2), .val (.int x3), .val (.int x4), .val (.ref b1), .val (.ref b8), .val (.ref b11), .val (.ref b15), .val (.int (0 : Int32)), .unset, .unset, .unset] [(.int (1 : Int32)), (.int (0 : Int32)), (.ref b15)]))
    have F145 : Arv Z h144 b15 k15 .int (5 : Int32) [(.int (0 : Int32)), (.int (0 : Int32)), (.int (0 : Int32)), (.int (0 : Int32)), (.int (0 : Int32))] (.int (0 : Int32)) := ((V15.other W142 (Ne.symm ne_b8_b15)).other W144 (Ne.symm ne_b11_b15))
    refine own_iastore X144 hx hZ e144 F145 (j := (0 : Int32)) (own_Jb hj0 (by decide)).1 (0 : Int32).toNatClampNeg rfl (by rw [hl0]; exact own_lt5 (own_Jb hj0 (by decide)).1) (g := (mkF m 128 #[.val (.int p1), .val (.int p2), .val (.int p3), .val (.int p4), .val (.int p5), .val (.int p6), .val (.int x0), .val (.int x1), .val (.int x2), .val (.int x3), .val (.int x4), .val (.ref b1), .val (.ref b8), .val (.ref b11), .val (.ref b15), .val (.int (0 : Int32)), .unset, .unset, .unset] [(.int (1 : Int32)), (.int (0 : Int32)), (.ref b15)])) rfl rfl (hb hby at_128) (fun T146 h146 X146 e146 W146 V146 => ?_)
    replace V146 : Arv Z h146 b15 k15 .int (5 : Int32) (List.set [(.int (0 : Int32)), (.int (0 : Int32)), (.int (0 : Int32)), (.int (0 : Int32)), (.int (0 : Int32))] (0 : Int32).toNatClampNeg (.int (1 : Int32))) (.int (0 : Int32)) := V146
    have N146 := Fr.snoc X146 N144 (Nat.le_trans F16 (Nat.le_of_eq g15.symm))
    refine own_go (fun t k => XS.iinc X146.here hx rfl (hb hby at_129) rfl (l' := #[.val (.int p1), .val (.int p2), .val (.int p3), .val (.int p4), .val (.int p5), .val (.int p6), .val (.int x0), .val (.int x1), .val (.int x2), .val (.int x3), .val (.int x4), .val (.ref b1), .val (.ref b8), .val (.ref b11), .val (.ref b15), .val (.int ((0 : Int32) + (1 : Int32))), .unset, .unset, .unset]) rfl k) ?_
    have F147 : Arv Z h146 b1 k1 .int (5 : Int32) [(.int x0), (.int x1), (.int x2), (.int x3), (.int x4)] (.int (0 : Int32)) := ((((F17.ext E15).other W142 ne_b1_b8).other W144 ne_b1_b11).other W146 ne_b1_b15)
    have F148 : Arv Z h146 b8 k8 .int (5 : Int32) (List.set [(.int (0 : Int32)), (.int (0 : Int32)), (.int (0 : Int32)), (.int (0 : Int32)), (.int (0 : Int32))] (0 : Int32).toNatClampNeg (.int x0)) (.int (0 : Int32)) := ((V142.other W144 ne_b8_b11).other W146 ne_b8_b15)
    have F149 : Arv Z h146 b11 k11 .int (5 : Int32) (List.set [(.int (0 : Int32)), (.int (0 : Int32)), (.int (0 : Int32)), (.int (0 : Int32)), (.int (0 : Int32))] (0 : Int32).toNatClampNeg (.int (0 : Int32))) (.int (0 : Int32)) := (V144.other W146 ne_b11_b15)
    have F150 : n0 ≤ h146.size := (Nat.le_trans (Nat.le_trans (Nat.le_trans (Nat.le_trans F16 E15.1) (Keep.of_wr W142).1) (Keep.of_wr W144).1) (Keep.of_wr W146).1)
    exact J132_20 ((0 : Int32) + (1 : Int32)) (List.set [(.int (0 : Int32)), (.int (0 : Int32)), (.int (0 : Int32)), (.int (0 : Int32)), (.int (0 : Int32))] (0 : Int32).toNatClampNeg (.int x0)) (List.set [(.int (0 : Int32)), (.int (0 : Int32)), (.int (0 : Int32)), (.int (0 : Int32)), (.int (0 : Int32))] (0 : Int32).toNatClampNeg (.int (0 : Int32))) (List.set [(.int (0 : Int32)), (.int (0 : Int32)), (.int (0 : Int32)), (.int (0 : Int32)), (.int (0 : Int32))] (0 : Int32).toNatClampNeg (.int (1 : Int32))) T146 h146 _ _ _ X146 e146 N146 (by decide) (by decide) F147 F148 F149 V146 F150 (own_J2 hj0 (by decide) rfl (by decide)) (by rw [List.length_set]; exact hl0)
set_option maxRecDepth 65536 in
set_option maxHeartbeats 40000000 in
theorem comes_1 {Post : Tables → Env → Array Value → State → Outcome → State → Prop} (hpost : ∀ tb e args s v u, (limb_1_1.after args s (.returned v) u = true ∧ limb_1_2.after args s (.returned v) u = true ∧ True) → FrameEnd s (.returned v) u (Jvm.fieldLocs frame_1_writes args s ++ Jvm.arrayLocs frame_1_arrays args s ++ Jvm.staticLocs frame_1_statics s) 24 192 → Post tb e args s (.returned v) u) :
    ArmFor flags0 classFile x code maxLocals ret World_1 tables_1 room_1 Calls_1 rest_1 Pre_1 Post := by
  intro l hfl _ _ p e ha hc hk s m args below hf hA hF happ hP
  obtain ⟨hcalls, hrest, hpre⟩ := hP
  obtain ⟨-, -, -, hnamed, -, -, -, hat⟩ := (Spec.applies_iff hf).mp happ
  obtain ⟨hg, hn⟩ := and_e (Cond.before_iff.mp (show (Jvm.Cond.and given_1 narrow_1).before args s = true from hpre))
  obtain ⟨hcount, hg⟩ := and_e hg
  obtain ⟨ha0, hg⟩ := and_e hg
  obtain ⟨ha1, hg⟩ := and_e hg
  obtain ⟨ha2, hg⟩ := and_e hg
  obtain ⟨ha3, hg⟩ := and_e hg
  obtain ⟨ha4, hg⟩ := and_e hg
  have ha5 := hg
  obtain ⟨w0, w1, w2, w3, w4, w5, rfl⟩ : ∃ w0 w1 w2 w3 w4 w5 : Value, args = #[w0, w1, w2, w3, w4, w5] := by
    have hs : args.size = 6 := by simpa [Cond.value, given_1] using hcount
    obtain ⟨L⟩ := args
    match L, hs with
    | [w0, w1, w2, w3, w4, w5], _ => exact ⟨w0, w1, w2, w3, w4, w5, rfl⟩
  have hw := fun d (hd : d ∈ tables_1) => atoms_spec (ws := Jvm.Cond.code x code maxLocals ret :: tables_1) hat d (List.mem_cons_of_mem _ hd)
  have hfit : Fit s := fun {y c} hc i hi => by
    obtain ⟨ha, rfl⟩ := Array.getElem?_eq_some_iff.mp hc
    have q := List.all_eq_true.mp ((Array.all_eq_true_iff_forall_mem.mp hF) _ (Array.getElem_mem ha)) i (List.mem_range.mpr hi)
    simpa [Array.getElem?_eq_getElem hi] using q
  obtain ⟨i0, ei0⟩ := is_v ha0
  obtain rfl : w0 = (.int i0) := Option.some.inj ei0
  obtain ⟨i1, ei1⟩ := is_v ha1
  obtain rfl : w1 = (.int i1) := Option.some.inj ei1
  obtain ⟨i2, ei2⟩ := is_v ha2
  obtain rfl : w2 = (.int i2) := Option.some.inj ei2
  obtain ⟨i3, ei3⟩ := is_v ha3
  obtain rfl : w3 = (.int i3) := Option.some.inj ei3
  obtain ⟨i4, ei4⟩ := is_v ha4
  obtain rfl : w4 = (.int i4) := Option.some.inj ei4
  obtain ⟨i5, ei5⟩ := is_v ha5
  obtain rfl : w5 = (.int i5) := Option.some.inj ei5
  obtain ⟨n, o, h1, h2, h3, _, L, rfl, ⟨rfl, N⟩, hq⟩ := rm_law l s _ hw i0 i1 i2 i3 i4 i5  s.heap s.heap.size (Nat.le_refl _) tables_1 p e ha hc hk s m _ below hf ((Spec.applies_iff_loose hf).mp happ).1 ⟨rfl, State.Warmed39.refl s, rfl⟩ trivial
  refine ⟨n, _, h1, h2, h3, hpost _ _ _ _ _ _ ⟨Cond.after_iff.mpr rfl, Cond.after_iff.mpr (eq_i res_at (Term.int_eval (1)) rfl), trivial⟩ ⟨hq.1, hq.2.1, (hq.2.2.sift fun y hy => Or.inr (N y hy)).mono (by decide) (by decide)⟩⟩
theorem main_1_1 : Claimed_1_1 := comes_1 fun _ _ _ _ _ _ h hF => ⟨h.1, hF⟩
theorem main_1_2 : Claimed_1_2 := comes_1 fun _ _ _ _ _ _ h hF => ⟨h.2.1, hF⟩
end Jvm.Pilot.@@N@@
namespace Jvm.Pilot.@@N@@
open Jvm Jvm.ClassFile Sem Op Lib Jvm.Free Jvm.Stand Jvm.Pilot.@@N@@.Jvm.D
/-! MADE BY PROGRAM (witnessworld.py) out of the Statement's table words and the real class files: 10 classes; the members and pool entries that the words name. The judged class is class 1, her method 2. -/
namespace start1
open Jvm.ClassFile
def u (s : String) : CpInfo := .utf8 (stringToUtf16 s)
/-- a pool by its gaps: so many unusable entries, then the entry; so many at the end -/
def gap : Nat → List CpInfo → List CpInfo
  | 0, r => r
  | n + 1, r => .unusable :: gap n r
def poolList (es : List (Nat × CpInfo)) (last : Nat) : List CpInfo := es.foldr (fun e r => gap e.1 (e.2 :: r)) (gap last [])
def pool (es : List (Nat × CpInfo)) (last : Nat) : Array CpInfo := ⟨poolList es last⟩
def fileOf (pool : Array CpInfo) (this : Nat) (attrs : Array Attribute := #[]) (ms : Array MethodInfo := #[]) (fl : Nat := 33) (sup : Nat := 0) (ifs : Array Nat := #[]) (fds : Array FieldInfo := #[]) : ClassFile where
  minorVersion := 0
  majorVersion := 65
  constantPool := pool
  accessFlags := fl
  thisClass := this
  superClass := sup
  interfaces := ifs
  fields := fds
  methods := ms
  attributes := attrs
def plain (name : String) (sup : Option ClassId) : Class where
  name := name
  kind := .ordinary
  loader := none
  accessFlags := 33
  super := sup
  interfaces := #[]
  cf := none
  fields := #[]
  methods := #[]
  instanceTypes := #[]
  staticTypes := #[]
  resolved := #[]
  callSites := []
  init := .initialized
  statics := none
  mirror := none

def pool0 : Array CpInfo := pool [(5, u "<init>"), (0, u "()V"), (1, .class_ 10), (1, u "java/lang/Object")] 113

def k0c0 : Code := { maxStack := 0, maxLocals := 1, code := object_method_1_code, exceptionTable := #[], attributes := #[] }
def k0m0 : Method := { name := "<init>", desc := "()V", sig := { parameters := [], returnType := none }, accessFlags := 1, code := some k0c0 }
/-- java/lang/Object -/
def k0 : Class := { plain "java/lang/Object" none with
  accessFlags := 33
  interfaces := #[]
  cf := some (fileOf pool0 8 #[] #[{ accessFlags := 1, nameIndex := 5, descriptorIndex := 6, attributes := #[] }] 33 0 #[] #[])
  fields := #[]
  methods := #[k0m0]
  instanceTypes := #[]
  staticTypes := #[]
  resolved := Array.replicate 124 none
  statics := none }

def pool1 : Array CpInfo := pool [(2, .class_ 4), (1, u "java/lang/Object"), (0, u "<init>"), (0, u "()V"), (0, .integer 268435455), (0, .class_ 9), (0, u "com/example/glossyn/glossyn/search/Candidates"), (0, .methodref 8 11), (0, .nameAndType 5 12), (0, u "([I[IID)V"), (0, .class_ 14), (0, u "com/example/glossyn/glossyn/index/Postings"), (0, .methodref 13 16), (0, .nameAndType 5 17), (0, u "([I[II)V"), (0, .methodref 8 19), (0, .nameAndType 20 21), (0, u "placesOf"), (0, u "(Lcom/example/glossyn/glossyn/index/Postings;)[I"), (0, .methodref 23 24), (0, .class_ 25), (0, .nameAndType 26 27), (0, u "com/example/glossyn/glossyn/search/CandidatesPlacesOfPinLaw"), (0, u "at"), (0, u "([I[III)Z"), (3, u "law"), (0, u "(IIIIII)Z")] 4

def k1m0 : Method := { name := "<init>", desc := "()V", sig := { parameters := [], returnType := none }, accessFlags := 1, code := none }
def k1c1 : Code := { maxStack := 3, maxLocals := 4, code := method_2_code, exceptionTable := #[], attributes := #[] }
def k1m1 : Method := { name := "at", desc := "([I[III)Z", sig := { parameters := [(.array .int), (.array .int), .int, .int], returnType := some .boolean }, accessFlags := 10, code := some k1c1 }
def k1c2 : Code := { maxStack := 7, maxLocals := 19, code := code, exceptionTable := #[], attributes := #[] }
def k1m2 : Method := { name := "law", desc := "(IIIIII)Z", sig := { parameters := [.int, .int, .int, .int, .int, .int], returnType := some .boolean }, accessFlags := 9, code := some k1c2 }
/-- com/example/glossyn/glossyn/search/CandidatesPlacesOfPinLaw -/
def k1 : Class := { plain "com/example/glossyn/glossyn/search/CandidatesPlacesOfPinLaw" (some 0) with
  accessFlags := 49
  interfaces := #[]
  cf := some (fileOf pool1 23 #[] #[{ accessFlags := 1, nameIndex := 5, descriptorIndex := 6, attributes := #[] }, { accessFlags := 10, nameIndex := 26, descriptorIndex := 27, attributes := #[] }, { accessFlags := 9, nameIndex := 31, descriptorIndex := 32, attributes := #[] }] 49 2 #[] #[])
  fields := #[]
  methods := #[k1m0, k1m1, k1m2]
  instanceTypes := #[]
  staticTypes := #[]
  resolved := Array.replicate 37 none
  statics := none }

def pool2 : Array CpInfo := pool [(1, .methodref 2 3), (0, .class_ 4), (0, .nameAndType 5 6), (0, u "java/lang/Object"), (0, u "<init>"), (0, u "()V"), (0, .fieldref 8 9), (0, .class_ 10), (0, .nameAndType 11 12), (0, u "com/example/glossyn/glossyn/search/Candidates"), (0, u "documents"), (0, u "[I"), (0, .fieldref 8 14), (0, .nameAndType 15 12), (0, u "lengths"), (0, .fieldref 8 17), (0, .nameAndType 18 19), (0, u "documentCount"), (0, u "I"), (0, .fieldref 8 21), (0, .nameAndType 22 23), (0, u "averageLength"), (0, u "D"), (0, .methodref 25 26), (0, .class_ 27), (0, .nameAndType 28 29), (0, u "com/example/glossyn/glossyn/index/Postings"), (0, u "size"), (0, u "()I"), (0, .methodref 25 31), (0, .nameAndType 32 33), (0, u "document"), (0, u "(I)I"), (6, u "([I[IID)V"), (3, u "placesOf"), (0, u "(Lcom/example/glossyn/glossyn/index/Postings;)[I")] 6

def k2c0 : Code := { maxStack := 3, maxLocals := 6, code := prog_31_method_1_code, exceptionTable := #[], attributes := #[] }
def k2m0 : Method := { name := "<init>", desc := "([I[IID)V", sig := { parameters := [(.array .int), (.array .int), .int, .double], returnType := none }, accessFlags := 0, code := some k2c0 }
def k2c1 : Code := { maxStack := 3, maxLocals := 5, code := prog_31_method_4_code, exceptionTable := #[], attributes := #[] }
def k2m1 : Method := { name := "placesOf", desc := "(Lcom/example/glossyn/glossyn/index/Postings;)[I", sig := { parameters := [(.object "com/example/glossyn/glossyn/index/Postings")], returnType := some (.array .int) }, accessFlags := 0, code := some k2c1 }
/-- com/example/glossyn/glossyn/search/Candidates -/
def k2 : Class := { plain "com/example/glossyn/glossyn/search/Candidates" (some 0) with
  accessFlags := 32
  interfaces := #[]
  cf := some (fileOf pool2 8 #[] #[{ accessFlags := 0, nameIndex := 5, descriptorIndex := 40, attributes := #[] }, { accessFlags := 0, nameIndex := 44, descriptorIndex := 45, attributes := #[] }] 32 2 #[] #[{ accessFlags := 18, nameIndex := 11, descriptorIndex := 12, attributes := #[] }, { accessFlags := 18, nameIndex := 15, descriptorIndex := 12, attributes := #[] }, { accessFlags := 18, nameIndex := 18, descriptorIndex := 19, attributes := #[] }, { accessFlags := 18, nameIndex := 22, descriptorIndex := 23, attributes := #[] }])
  fields := #[{ name := "documents", type := (.array .int), accessFlags := 18, slot := 0, constantValue := 0 }, { name := "lengths", type := (.array .int), accessFlags := 18, slot := 1, constantValue := 0 }, { name := "documentCount", type := .int, accessFlags := 18, slot := 2, constantValue := 0 }, { name := "averageLength", type := .double, accessFlags := 18, slot := 3, constantValue := 0 }]
  methods := #[k2m0, k2m1]
  instanceTypes := #[(.array .int), (.array .int), .int, .double]
  staticTypes := #[]
  resolved := Array.replicate 52 none
  statics := none }

def pool3 : Array CpInfo := pool [(1, .methodref 2 3), (0, .class_ 4), (0, .nameAndType 5 6), (0, u "java/lang/Object"), (0, u "<init>"), (0, u "()V"), (0, .fieldref 8 9), (0, .class_ 10), (0, .nameAndType 11 12), (0, u "com/example/glossyn/glossyn/index/Postings"), (0, u "documents"), (0, u "[I"), (0, .fieldref 8 14), (0, .nameAndType 15 12), (0, u "frequencies"), (0, .fieldref 8 17), (0, .nameAndType 18 19), (0, u "size"), (0, u "I"), (4, u "()I"), (34, u "([I[II)V"), (14, u "document"), (0, u "(I)I")] 25

def k3c0 : Code := { maxStack := 2, maxLocals := 4, code := prog_22_method_1_code, exceptionTable := #[], attributes := #[] }
def k3m0 : Method := { name := "<init>", desc := "([I[II)V", sig := { parameters := [(.array .int), (.array .int), .int], returnType := none }, accessFlags := 1, code := some k3c0 }
def k3c1 : Code := { maxStack := 1, maxLocals := 1, code := prog_22_method_3_code, exceptionTable := #[], attributes := #[] }
def k3m1 : Method := { name := "size", desc := "()I", sig := { parameters := [], returnType := some .int }, accessFlags := 1, code := some k3c1 }
def k3c2 : Code := { maxStack := 2, maxLocals := 2, code := prog_22_method_4_code, exceptionTable := #[], attributes := #[] }
def k3m2 : Method := { name := "document", desc := "(I)I", sig := { parameters := [.int], returnType := some .int }, accessFlags := 1, code := some k3c2 }
/-- com/example/glossyn/glossyn/index/Postings -/
def k3 : Class := { plain "com/example/glossyn/glossyn/index/Postings" (some 0) with
  accessFlags := 33
  interfaces := #[]
  cf := some (fileOf pool3 8 #[] #[{ accessFlags := 1, nameIndex := 5, descriptorIndex := 59, attributes := #[] }, { accessFlags := 1, nameIndex := 18, descriptorIndex := 24, attributes := #[] }, { accessFlags := 1, nameIndex := 74, descriptorIndex := 75, attributes := #[] }] 33 2 #[] #[{ accessFlags := 18, nameIndex := 11, descriptorIndex := 12, attributes := #[] }, { accessFlags := 18, nameIndex := 15, descriptorIndex := 12, attributes := #[] }, { accessFlags := 18, nameIndex := 18, descriptorIndex := 19, attributes := #[] }])
  fields := #[{ name := "documents", type := (.array .int), accessFlags := 18, slot := 0, constantValue := 0 }, { name := "frequencies", type := (.array .int), accessFlags := 18, slot := 1, constantValue := 0 }, { name := "size", type := .int, accessFlags := 18, slot := 2, constantValue := 0 }]
  methods := #[k3m0, k3m1, k3m2]
  instanceTypes := #[(.array .int), (.array .int), .int]
  staticTypes := #[]
  resolved := Array.replicate 101 none
  statics := none }

def pool4 : Array CpInfo := pool [(1, u "java/lang/Cloneable"), (0, .class_ 1), (0, u "java/lang/Object"), (0, .class_ 3)] 3

/-- java/lang/Cloneable -/
def k4 : Class := { plain "java/lang/Cloneable" (some 0) with
  accessFlags := 1537
  interfaces := #[]
  cf := some (fileOf pool4 2 #[] #[] 1537 4 #[] #[])
  fields := #[]
  methods := #[]
  instanceTypes := #[]
  staticTypes := #[]
  resolved := Array.replicate 8 none
  statics := none }

def pool5 : Array CpInfo := pool [(1, u "java/io/Serializable"), (0, .class_ 1), (0, u "java/lang/Object"), (0, .class_ 3)] 3

/-- java/io/Serializable -/
def k5 : Class := { plain "java/io/Serializable" (some 0) with
  accessFlags := 1537
  interfaces := #[]
  cf := some (fileOf pool5 2 #[] #[] 1537 4 #[] #[])
  fields := #[]
  methods := #[]
  instanceTypes := #[]
  staticTypes := #[]
  resolved := Array.replicate 8 none
  statics := none }

/-- the primitive byte -/
def k6 : Class := { plain "byte" none with kind := .primitive 'B', accessFlags := 0x411 }
/-- [B -/
def k7 : Class := { plain "[B" (some 0) with kind := .array 6 .byte, interfaces := #[4, 5], accessFlags := 1041 }

/-- the primitive int -/
def k8 : Class := { plain "int" none with kind := .primitive 'I', accessFlags := 0x411 }
/-- [I -/
def k9 : Class := { plain "[I" (some 0) with kind := .array 8 .int, interfaces := #[4, 5], accessFlags := 1041 }

def heap : Heap := #[]
def classes : Array Class := #[k0, k1, k2, k3, k4, k5, k6, k7, k8, k9]
def interned : List (Array UInt16 × Addr) := []
def slotsUsed : Nat := 0
def theMethod : MethodId := ⟨1, 2⟩
def args0 : Array Value := #[.int 5, .int 7, .int 9, .int 11, .int 13, .int 15]
def aboutOver (below : List Frame) : State where
  vm := { classes := classes, interned := interned.toArray }
  heap := heap
  slotsUsed := slotsUsed
  threads := #[{ frames := .invoking theMethod args0 :: below }]
def below0 : List Frame := [.native { method := ⟨0, 0⟩, args := #[] }]
def about1 : State := aboutOver below0
def p0 : Program := .bare "" "" ""
def e0 : Env := launch0.env 0 0 0
theorem w_frames : about1.frames = Frame.invoking theMethod args0 :: below0 := rfl
set_option maxRecDepth 65536 in
theorem w_args : argsFit about1.vm theMethod args0 = true := by decide +kernel
set_option maxRecDepth 65536 in
theorem w_heap : heapFits about1 = true := by decide +kernel
set_option maxRecDepth 65536 in
theorem w_runnable : about1.curStatus? = some .runnable := by decide +kernel
set_option maxRecDepth 65536 in
theorem w_alone : about1.alone = true := by decide +kernel
set_option maxRecDepth 65536 in
theorem w_named : about1.methodNamed? x = some theMethod := by decide +kernel
set_option maxRecDepth 65536 in
theorem w_hears : about1.hears theMethod below0 = true := by decide +kernel
set_option maxRecDepth 65536 in
theorem w_ripe : about1.ripe theMethod args0 below0 = true := by decide +kernel
theorem w_running : about1.status = .running := rfl
set_option maxRecDepth 65536 in
theorem w_room : about1.hasRoom e0.platform room_1 = true :=
  launch0.hasRoom_least _ room_1 (by decide +kernel) (by decide +kernel) (by decide +kernel) (by decide +kernel) (by decide +kernel) (by decide +kernel)
theorem allAtoms_all (ts : List Jvm.Cond) (a : Array Jvm.Value) (st : Jvm.State) : (allAtoms ts).before a st = ts.all (fun c => c.before a st) := by
  induction ts with
  | nil => rfl
  | cons c t ih =>
    show (Jvm.Cond.and c (allAtoms t)).before a st = _
    rw [Jvm.Cond.before_and, ih, List.all_cons]
def words1 : List Jvm.Cond := Jvm.Cond.code x code maxLocals ret :: tables_1
/-- a 'code' word, met by the world's own term for the bytes: nothing is compared byte by byte -/
theorem code_word {y : MethodName} {bytes : ByteArray} {mx : Nat} {rt : Option FieldType} {a : Array Value} {s : State} {m : MethodId} {meth : Method} {c : Code} (h1 : s.methodNamed? y = some m) (h2 : s.vm.method? m = some meth) (h3 : meth.code = some c) (h4 : c.code = bytes)
    (h5 : (c.maxLocals == mx && c.exceptionTable.isEmpty && decide (c.maxStack ≤ mostOperands) && decide (meth.sig.returnType = rt) && !meth.locks && decide (parseMethodDescriptor y.desc = some meth.sig)) = true) : (Jvm.Cond.code y bytes mx rt).before a s = true := by
  simp only [Bool.and_eq_true, beq_iff_eq, Bool.not_eq_true', decide_eq_true_eq] at h5
  obtain ⟨⟨⟨⟨⟨g1, g2⟩, g3⟩, g4⟩, g5⟩, g6⟩ := h5
  simp [Cond.before, Cond.holds, Cond.value, h1, h2, h3, h4, g1, g2, g3, g4, g5, g6]
def isCode : Jvm.Cond → Bool
  | .code _ _ _ _ => true
  | _ => false
theorem all_split {L : List Jvm.Cond} {P : Jvm.Cond → Bool} (h1 : L.all (fun c => isCode c || P c) = true) (h2 : ∀ c ∈ L.filter isCode, P c = true) : L.all P = true := by
  refine List.all_eq_true.mpr fun c hc => ?_
  have h := List.all_eq_true.mp h1 c hc
  rcases Bool.eq_false_or_eq_true (isCode c) with hi | hi
  · exact h2 c (List.mem_filter.mpr ⟨hc, hi⟩)
  · simpa [hi] using h
set_option maxRecDepth 65536 in
theorem w_c0 : (Jvm.Cond.code x code maxLocals ret).before args0 about1 = true := code_word (m := ⟨1, 2⟩) (meth := k1m2) (c := k1c2) (by decide +kernel) rfl rfl rfl (by decide +kernel)
set_option maxRecDepth 65536 in
theorem w_c1 : (Jvm.Cond.code ({ cls := "com/example/glossyn/glossyn/search/Candidates", name := "<init>", desc := "([I[IID)V" } : Jvm.MethodName) prog_31_method_1_code (6 : Nat) (Option.none : Option Jvm.ClassFile.FieldType)).before args0 about1 = true := code_word (m := ⟨2, 0⟩) (meth := k2m0) (c := k2c0) (by decide +kernel) rfl rfl rfl (by decide +kernel)
set_option maxRecDepth 65536 in
theorem w_c2 : (Jvm.Cond.code ({ cls := "java/lang/Object", name := "<init>", desc := "()V" } : Jvm.MethodName) object_method_1_code (1 : Nat) (Option.none : Option Jvm.ClassFile.FieldType)).before args0 about1 = true := code_word (m := ⟨0, 0⟩) (meth := k0m0) (c := k0c0) (by decide +kernel) rfl rfl rfl (by decide +kernel)
set_option maxRecDepth 65536 in
theorem w_c3 : (Jvm.Cond.code ({ cls := "com/example/glossyn/glossyn/index/Postings", name := "<init>", desc := "([I[II)V" } : Jvm.MethodName) prog_22_method_1_code (4 : Nat) (Option.none : Option Jvm.ClassFile.FieldType)).before args0 about1 = true := code_word (m := ⟨3, 0⟩) (meth := k3m0) (c := k3c0) (by decide +kernel) rfl rfl rfl (by decide +kernel)
set_option maxRecDepth 65536 in
theorem w_c4 : (Jvm.Cond.code ({ cls := "com/example/glossyn/glossyn/search/Candidates", name := "placesOf", desc := "(Lcom/example/glossyn/glossyn/index/Postings;)[I" } : Jvm.MethodName) prog_31_method_4_code (5 : Nat) (Option.some (Jvm.ClassFile.FieldType.array Jvm.ClassFile.FieldType.int))).before args0 about1 = true := code_word (m := ⟨2, 1⟩) (meth := k2m1) (c := k2c1) (by decide +kernel) rfl rfl rfl (by decide +kernel)
set_option maxRecDepth 65536 in
theorem w_c5 : (Jvm.Cond.code ({ cls := "com/example/glossyn/glossyn/index/Postings", name := "size", desc := "()I" } : Jvm.MethodName) prog_22_method_3_code (1 : Nat) (Option.some Jvm.ClassFile.FieldType.int)).before args0 about1 = true := code_word (m := ⟨3, 1⟩) (meth := k3m1) (c := k3c1) (by decide +kernel) rfl rfl rfl (by decide +kernel)
set_option maxRecDepth 65536 in
theorem w_c6 : (Jvm.Cond.code ({ cls := "com/example/glossyn/glossyn/index/Postings", name := "document", desc := "(I)I" } : Jvm.MethodName) prog_22_method_4_code (2 : Nat) (Option.some Jvm.ClassFile.FieldType.int)).before args0 about1 = true := code_word (m := ⟨3, 2⟩) (meth := k3m2) (c := k3c2) (by decide +kernel) rfl rfl rfl (by decide +kernel)
set_option maxRecDepth 65536 in
theorem w_c7 : (Jvm.Cond.code ({ cls := "com/example/glossyn/glossyn/search/CandidatesPlacesOfPinLaw", name := "at", desc := "([I[III)Z" } : Jvm.MethodName) method_2_code (4 : Nat) (Option.some Jvm.ClassFile.FieldType.boolean)).before args0 about1 = true := code_word (m := ⟨1, 1⟩) (meth := k1m1) (c := k1c1) (by decide +kernel) rfl rfl rfl (by decide +kernel)
def codes1 : List Jvm.Cond := [Jvm.Cond.code x code maxLocals ret, Jvm.Cond.code ({ cls := "com/example/glossyn/glossyn/search/Candidates", name := "<init>", desc := "([I[IID)V" } : Jvm.MethodName) prog_31_method_1_code (6 : Nat) (Option.none : Option Jvm.ClassFile.FieldType), Jvm.Cond.code ({ cls := "java/lang/Object", name := "<init>", desc := "()V" } : Jvm.MethodName) object_method_1_code (1 : Nat) (Option.none : Option Jvm.ClassFile.FieldType), Jvm.Cond.code ({ cls := "com/example/glossyn/glossyn/index/Postings", name := "<init>", desc := "([I[II)V" } : Jvm.MethodName) prog_22_method_1_code (4 : Nat) (Option.none : Option Jvm.ClassFile.FieldType), Jvm.Cond.code ({ cls := "com/example/glossyn/glossyn/search/Candidates", name := "placesOf", desc := "(Lcom/example/glossyn/glossyn/index/Postings;)[I" } : Jvm.MethodName) prog_31_method_4_code (5 : Nat) (Option.some (Jvm.ClassFile.FieldType.array Jvm.ClassFile.FieldType.int)), Jvm.Cond.code ({ cls := "com/example/glossyn/glossyn/index/Postings", name := "size", desc := "()I" } : Jvm.MethodName) prog_22_method_3_code (1 : Nat) (Option.some Jvm.ClassFile.FieldType.int), Jvm.Cond.code ({ cls := "com/example/glossyn/glossyn/index/Postings", name := "document", desc := "(I)I" } : Jvm.MethodName) prog_22_method_4_code (2 : Nat) (Option.some Jvm.ClassFile.FieldType.int), Jvm.Cond.code ({ cls := "com/example/glossyn/glossyn/search/CandidatesPlacesOfPinLaw", name := "at", desc := "([I[III)Z" } : Jvm.MethodName) method_2_code (4 : Nat) (Option.some Jvm.ClassFile.FieldType.boolean)]
set_option maxRecDepth 65536 in
theorem codes_eq : words1.filter isCode = codes1 := rfl
theorem w_codes : ∀ c ∈ words1.filter isCode, c.before args0 about1 = true := by
  rw [codes_eq]
  intro c hc
  simp only [codes1, List.mem_cons, List.not_mem_nil, or_false] at hc
  rcases hc with rfl | rfl | rfl | rfl | rfl | rfl | rfl | rfl
  · exact w_c0
  · exact w_c1
  · exact w_c2
  · exact w_c3
  · exact w_c4
  · exact w_c5
  · exact w_c6
  · exact w_c7
set_option maxRecDepth 65536 in
theorem w_t1 : (words1.take 24).all (fun c => isCode c || c.before args0 about1) = true := by decide +kernel
set_option maxRecDepth 65536 in
theorem w_t2 : ((words1.drop 24).take 24).all (fun c => isCode c || c.before args0 about1) = true := by decide +kernel
set_option maxRecDepth 65536 in
theorem w_t3 : ((words1.drop 24).drop 24).all (fun c => isCode c || c.before args0 about1) = true := by decide +kernel
theorem w_tables : (allAtoms (Jvm.Cond.code x code maxLocals ret :: tables_1)).before args0 about1 = true := by
  rw [allAtoms_all]
  show words1.all (fun c => c.before args0 about1) = true
  refine all_split ?_ w_codes
  rw [← List.take_append_drop 24 words1, List.all_append, w_t1, ← List.take_append_drop 24 (words1.drop 24), List.all_append, w_t2, w_t3]
  rfl
set_option maxRecDepth 65536 in
theorem w_case : (Jvm.Cond.and given_1 narrow_1).before args0 about1 = true := by decide +kernel
theorem w_applies : (headSpec (Jvm.Cond.code x code maxLocals ret :: tables_1) room_1).applies x e0.platform about1 = true :=
  (Spec.applies_iff w_frames).mpr ⟨w_running, w_runnable, w_alone, w_named, w_hears, w_ripe, w_room, w_tables⟩
theorem atStart : AtStart classFile x code maxLocals ret World_1 tables_1 room_1 Calls_1 rest_1 Pre_1 launch0 p0 e0 about1 theMethod args0 below0 :=
  ⟨lists_1, trivial, launch0.admits_env _ _ _, launch0.least_env, fairChoices_fair.cas, fairChoices_fair.clock, w_frames, w_args, w_heap, w_applies, trivial, trivial, w_case⟩
end start1
theorem witness_1 : WitnessClaimed_1 := ⟨start1.p0, start1.e0, start1.about1, start1.theMethod, start1.args0, start1.below0, start1.atStart⟩
end Jvm.Pilot.@@N@@
