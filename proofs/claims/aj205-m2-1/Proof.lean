import JvmDerived
import JvmDerived.Pilot.@@N@@Statement
import JvmDerived.Pilot.@@N@@Code
set_option linter.unusedVariables false
set_option linter.unusedSimpArgs false
set_option maxHeartbeats 40000000
namespace Jvm.RoadKit
open Sem ClassFile Op Lib Jvm.Stand Jvm.Free Jvm.LawKit
section New
variable {p : Program} {l : Launch} {e : Env} {R : Room} {s : State} {m : MethodId} {args : Array Value} {below : List Frame} {meth : Method} {c : Code} {T : State} {locs : List Loc} {cells slots : Nat}
theorem retI (X : Stand p l e R s m args below meth c T locs cells slots) (hx : p.tables.exec = Jvm.exec) {pc : Nat} {Ls : Array Slot} {z : Int32} {rest : List Value} (hret : meth.sig.returnType = some .int) (hd : decode c.code pc = .ok (.ireturn, 1)) {fs : List Frame}
    (hl : ∀ (f : JFrame) (acts : List Action), f.method = m → f.locked = none → f.entered = [] → (doReturn e (T.setTop f) acts (some (.int z))).1 = T.setFrames fs) : Steps p.tables e below (T.setTop (mkF m pc Ls (.int z :: rest))) (T.setFrames fs) := by
  have hm' : T.vm.method? m = some meth := X.method'
  have hn : narrow .int (.int z) = .int z := rfl
  show Steps p.tables e below (T.setTop { method := m, pc := pc, locals := Ls, stack := _ :: rest, locked := none }) _
  jvm_step X.here [X.here.top, hx, hd, hm', hret, hn]
  first | (intro acts; rw [hl _ acts rfl rfl rfl]) | rw [hl _ _ rfl rfl rfl]
  exact Steps.refl _
end New
end Jvm.RoadKit
namespace Jvm.Pilot.@@N@@
open Jvm Jvm.ClassFile Sem Op Lib Jvm.Free Jvm.Stand Jvm.LawKit Jvm.RoadKit Bundle Jvm.Pilot.@@N@@.Jvm.D
/-! a run that ends well: what this text is made of -/
def own_Run (p : Program) (e : Env) (below : List Frame) (Φ : State → Prop) (S : State) : Prop := ∃ t, Steps p.tables e below S t ∧ Φ t
def own_Fin (s : State) (below : List Frame) (C D : Nat) (Q : Option Value → Heap → List Loc → Prop) (t : State) : Prop :=
  t.status = .running ∧ ∃ v L, Ended t below (.returned v) ∧ Q v t.heap L ∧ FrameEnd s (.returned v) t L C D
def own_Met (l : Launch) (Z : State) (y : MethodName) (bytes : ByteArray) (maxL : Nat) (ret : Option FieldType) (rm : Room) (as : Array Value) (h : Heap) (Q : Option Value → Heap → List Loc → Prop) : Prop :=
  ∀ ws : List Jvm.Cond, MetFree l y (head1 (Jvm.Cond.code y bytes maxL ret :: ws) rm) (fun a U => a = as ∧ Z.Warmed39 U.vm ∧ U.heap = h) (fun _ _ _ _ _ => True) (fun _ U o U' => ∃ v L, o = .returned v ∧ Q v U'.heap L ∧ FrameEnd U o U' L rm.cells rm.slots)
section OwnRun
variable {p : Program} {l : Launch} {e : Env} {R : Room} {s : State} {m : MethodId} {args : Array Value} {below : List Frame} {meth : Method} {c : Code} {T : State} {locs : List Loc} {cells slots : Nat} {Φ : State → Prop} {S S' : State} {Z : State} {a0 : Array Value} {h : Heap}
theorem own_go (st : ∀ t, Steps p.tables e below S' t → Steps p.tables e below S t) (r : own_Run p e below Φ S') : own_Run p e below Φ S := r.elim fun t q => ⟨t, st t q.1, q.2⟩
theorem own_via (st : Steps p.tables e below S S') (r : own_Run p e below Φ S') : own_Run p e below Φ S := r.elim fun t q => ⟨t, st.trans q.1, q.2⟩
theorem own_cast {g g' : JFrame} (q : g = g') (r : own_Run p e below Φ (T.setTop g')) : own_Run p e below Φ (T.setTop g) := q ▸ r
theorem own_body {C D : Nat} {Q : Option Value → Heap → List Loc → Prop} (r : own_Run p e below (own_Fin s below C D Q) S) :
    ∃ s₂ o, Steps p.tables e below S s₂ ∧ s₂.status = .running ∧ Ended s₂ below o ∧ ∃ v L, o = .returned v ∧ Q v s₂.heap L ∧ FrameEnd s o s₂ L C D := by
  obtain ⟨t, q1, q2, v, L, q3, q4, q5⟩ := r
  exact ⟨t, _, q1, q2, q3, v, L, rfl, q4, q5⟩
variable {C D : Nat} {Q : Option Value → Heap → List Loc → Prop}
theorem own_retI (X : Stand p l e R s m args below meth c T locs cells slots) (hx : p.tables.exec = Jvm.exec) (hret : meth.sig.returnType = some .int) (hlk : meth.locks = false) {pc : Nat} {Ls : Array Slot} {z : Int32} {rest : List Value} (hd : decode c.code pc = .ok (.ireturn, 1)) (eT : T.heap = h) (hq : Q (some (.int z)) h locs) (hc : cells ≤ C) (hs : slots ≤ D) :
    own_Run p e below (own_Fin s below C D Q) (T.setTop (mkF m pc Ls (.int z :: rest))) := by
  obtain ⟨fs, hr, hrun, hended, hW, hsame⟩ := X.leave (v := some (.int z)) (fun q => by rw [hret] at q; cases q) hlk
  exact ⟨_, retI X hx hret hd hr, hrun, _, _, hended, by show Q _ T.heap _; rw [eT]; exact hq, ⟨_, rfl⟩, hW, hsame.mono hc hs⟩
theorem own_retN (X : Stand p l e R s m args below meth c T locs cells slots) (hx : p.tables.exec = Jvm.exec) {t : FieldType} (hret : meth.sig.returnType = some t) (ht : t = .boolean ∨ t = .byte ∨ t = .char ∨ t = .short) (hlk : meth.locks = false) {pc : Nat} {Ls : Array Slot} {z : Int32} {rest : List Value} (hd : decode c.code pc = .ok (.ireturn, 1)) (eT : T.heap = h) (hq : Q (some (.int (nar t z))) h locs) (hc : cells ≤ C) (hs : slots ≤ D) :
    own_Run p e below (own_Fin s below C D Q) (T.setTop (mkF m pc Ls (.int z :: rest))) := by
  obtain ⟨fs, hr, hrun, hended, hW, hsame⟩ := X.leave (v := some (.int (nar t z))) (fun q => by rw [hret] at q; cases q) hlk
  exact ⟨_, retN X hx hret ht hd hr, hrun, _, _, hended, by show Q _ T.heap _; rw [eT]; exact hq, ⟨_, rfl⟩, hW, hsame.mono hc hs⟩
theorem own_retV (X : Stand p l e R s m args below meth c T locs cells slots) (hx : p.tables.exec = Jvm.exec) (hret : meth.sig.returnType = none) (hlk : meth.locks = false) {pc : Nat} {Ls : Array Slot} (hd : decode c.code pc = .ok (.return_, 1)) (eT : T.heap = h) (hq : Q none h locs) (hc : cells ≤ C) (hs : slots ≤ D) :
    own_Run p e below (own_Fin s below C D Q) (T.setTop (mkF m pc Ls [])) := by
  obtain ⟨fs, hr, hrun, hended, hW, hsame⟩ := X.leave (v := none) (fun _ => rfl) hlk
  exact ⟨_, X.returnOut hx hret hd hr, hrun, _, _, hended, by show Q _ T.heap _; rw [eT]; exact hq, ⟨_, rfl⟩, hW, hsame.mono hc hs⟩
theorem own_retO (X : Stand p l e R s m args below meth c T locs cells slots) (hx : p.tables.exec = Jvm.exec) {t : FieldType} {i : Instr} {w : Value} (hret : meth.sig.returnType = some t) (hn : narrow t w = w)
    (hi : (i = .ireturn ∧ (t = .int ∨ t = .boolean ∨ t = .byte ∨ t = .char ∨ t = .short) ∧ ∃ z, w = .int z) ∨ (i = .lreturn ∧ t = .long ∧ ∃ z, w = .long z) ∨ (i = .dreturn ∧ t = .double ∧ ∃ z, w = .double z) ∨ (i = .freturn ∧ t = .float ∧ ∃ z, w = .float z) ∨ (i = .areturn ∧ t.isReference = true ∧ w.isRef = true))
    (hlk : meth.locks = false) {pc : Nat} {Ls : Array Slot} {rest : List Value} (hd : decode c.code pc = .ok (i, 1)) (eT : T.heap = h) (hq : Q (some w) h locs) (hc : cells ≤ C) (hs : slots ≤ D) :
    own_Run p e below (own_Fin s below C D Q) (T.setTop (mkF m pc Ls (w :: rest))) := by
  obtain ⟨fs, hr, hrun, hended, hW, hsame⟩ := X.leave (v := some w) (fun q => by rw [hret] at q; cases q) hlk
  exact ⟨_, retOut X hx hret hn hi hd hr, hrun, _, _, hended, by show Q _ T.heap _; rw [eT]; exact hq, ⟨_, rfl⟩, hW, hsame.mono hc hs⟩
/-- who pays a call -/
def own_Bk (l : Launch) (R : Room) (p : Program) (e : Env) (below : List Frame) (s : State) (args : Array Value) (y : MethodName) (W : Nat) (as : Array Value) (h : Heap) (cc ss : Nat) (Q : Option Value → Heap → List Loc → Prop) : Prop :=
  Back l R p e below s args y 3 W (fun A a => a = as ∧ A.U.heap = h ∧ A.cells + cc ≤ R.cells ∧ A.slots + ss ≤ R.slots) (fun A _ v B => ∃ L, Q v B.U.heap L ∧ B.locs = A.locs ++ L ∧ B.cells = A.cells + cc ∧ B.slots = A.slots + ss)
theorem own_bk {y : MethodName} {bytes : ByteArray} {maxL : Nat} {ret : Option FieldType} {rm : Room} {W : Nat} {as : Array Value} (hM : own_Met l Z y bytes maxL ret rm as h Q) (hZ : Z.Warmed39 s.vm) (wc : (Jvm.Cond.code y bytes maxL ret).before a0 Z = true) (wz : (Jvm.Cond.initialized y.cls).before a0 Z = true) (hf : rm.frames + 1 ≤ R.frames) (hl : W + (maxL + 11) + rm.locals ≤ R.locals) :
    own_Bk l R p e below s args y W as h rm.cells rm.slots Q := backOf (W := W) (hM []) hZ wc wz hf hl
/-- a static method by its contract -/
theorem own_callS (X : Stand p l e R s m args below meth c T locs cells slots) (hx : p.tables.exec = Jvm.exec) (hZ : Z.Warmed39 s.vm) {own : String} {index : Nat} {y : MethodName} {bytes : ByteArray} {maxL : Nat} {ret : Option FieldType} {cc ss : Nat}
    (hown : s.vm.findClass own = some m.cls) (w1 : (Jvm.Cond.methodLink own index y).before a0 Z = true) (w2 : (Jvm.Cond.static y).before a0 Z = true) (w3 : (Jvm.Cond.initialized y.cls).before a0 Z = true) (w4 : (Jvm.Cond.code y bytes maxL ret).before a0 Z = true)
    (hy : y.cls ≠ "java/lang/invoke/MethodHandle" ∧ y.cls ≠ "java/lang/invoke/VarHandle") {W : Nat} {argsL rest : List Value} (hK : own_Bk l R p e below s args y W argsL.toArray h cc ss Q) (eT : T.heap = h)
    {g : JFrame} (hg : g.method = m) (hsize : g.locals.size = c.maxLocals) (hlen : ∀ sig, parseMethodDescriptor y.desc = some sig → argsL.length = sig.parameters.length)
    (hstack : g.stack = argsL.reverse ++ rest) (hW : 2 * g.monitorRoom + (rest.map fun v => v.category).sum ≤ W) (hdg : decode c.code g.pc = .ok (.invokestatic index, 3))
    (hcl : cells + cc ≤ R.cells) (hsl : slots + ss ≤ R.slots)
    (k : ∀ v T' h' L, Stand p l e R s m args below meth c T' (locs ++ L) (cells + cc) (slots + ss) → T'.heap = h' → Q v h' L → own_Run p e below Φ (T'.setTop { g with pc := g.pc + 3, stack := v.toList ++ rest })) : own_Run p e below Φ (T.setTop g) := by
  obtain ⟨v, _, ⟨T', L', k', n'⟩, -, X', ⟨Lc, hQ, l1, y1, z1⟩, st⟩ := Jvm.LawKit.callS X hx (y := y) hown (mvT hZ w1) (mvT hZ w2) (mvT hZ w3) (mvT hZ w4) hy hK hg hsize hlen hstack hW hdg (fun _ _ => ⟨rfl, eT, hcl, hsl⟩)
  dsimp only [Pt.U, Pt.locs, Pt.cells, Pt.slots] at X' l1 y1 z1 st hQ
  subst l1 y1 z1
  exact own_go st (k v T' _ Lc X' rfl hQ)
/-- a constructor by its contract -/
theorem own_callI (X : Stand p l e R s m args below meth c T locs cells slots) (hx : p.tables.exec = Jvm.exec) (hZ : Z.Warmed39 s.vm) {own : String} {index : Nat} {y : MethodName} {bytes : ByteArray} {maxL : Nat} {cc ss : Nat} (hy1 : y.name = "<init>")
    (hown : s.vm.findClass own = some m.cls) (w1 : (Jvm.Cond.methodLink own index y).before a0 Z = true) (w2 : (Jvm.Cond.instanceMethod y).before a0 Z = true) (w4 : (Jvm.Cond.code y bytes maxL none).before a0 Z = true)
    (hy : y.cls ≠ "java/lang/invoke/MethodHandle" ∧ y.cls ≠ "java/lang/invoke/VarHandle") {W : Nat} {a : Addr} {argsL rest : List Value} (hK : own_Bk l R p e below s args y W (.ref a :: argsL).toArray h cc ss Q) (eT : T.heap = h)
    {g : JFrame} (hg : g.method = m) (hsize : g.locals.size = c.maxLocals) (hlen : ∀ sig, parseMethodDescriptor y.desc = some sig → argsL.length = sig.parameters.length)
    (hstack : g.stack = argsL.reverse ++ .ref a :: rest) (hW : 2 * g.monitorRoom + (rest.map fun v => v.category).sum ≤ W) (hdg : decode c.code g.pc = .ok (.invokespecial index, 3))
    (hcl : cells + cc ≤ R.cells) (hsl : slots + ss ≤ R.slots)
    (k : ∀ v T' h' L, Stand p l e R s m args below meth c T' (locs ++ L) (cells + cc) (slots + ss) → T'.heap = h' → Q v h' L → own_Run p e below Φ (T'.setTop { g with pc := g.pc + 3, stack := v.toList ++ rest })) : own_Run p e below Φ (T.setTop g) := by
  obtain ⟨v, _, ⟨T', L', k', n'⟩, -, X', ⟨Lc, hQ, l1, y1, z1⟩, st⟩ := X.specialBack hx (y := y) hy1 hown (mvT hZ w1) (mvT hZ w2) (mvT hZ w4) hy hK hg hsize (Steps.refl _) (a := a) hlen hstack hW hdg (fun _ _ => ⟨rfl, eT, hcl, hsl⟩)
  dsimp only [Pt.U, Pt.locs, Pt.cells, Pt.slots] at X' l1 y1 z1 st hQ
  subst l1 y1 z1
  exact own_via st (k v T' _ Lc X' rfl hQ)
/-- an instance method by the contract of the body that the receiver's class selects -/
theorem own_callV (X : Stand p l e R s m args below meth c T locs cells slots) (hx : p.tables.exec = Jvm.exec) (hZ : Z.Warmed39 s.vm) {own C : String} {index : Nat} {y z : MethodName} {cc ss : Nat}
    (hown : s.vm.findClass own = some m.cls) (w1 : (Jvm.Cond.methodLink own index y).before a0 Z = true) (w2 : (Jvm.Cond.declares y).before a0 Z = true) (hnf : NotFace s y) (w3 : (Jvm.Cond.selects C y z).before a0 Z = true) (w4 : (Jvm.Cond.instanceMethod z).before a0 Z = true)
    (hy : y.cls ≠ "java/lang/invoke/MethodHandle" ∧ y.cls ≠ "java/lang/invoke/VarHandle") {W : Nat} {a : Addr} {argsL rest : List Value} (hK : own_Bk l R p e below s args z W (.ref a :: argsL).toArray h cc ss Q) (eT : T.heap = h) (E : Exa Z h a C)
    {g : JFrame} (hg : g.method = m) (hsize : g.locals.size = c.maxLocals) (hlen : ∀ sig, parseMethodDescriptor y.desc = some sig → argsL.length = sig.parameters.length)
    (hstack : g.stack = argsL.reverse ++ .ref a :: rest) (hW : 2 * g.monitorRoom + (rest.map fun v => v.category).sum ≤ W) (hdg : decode c.code g.pc = .ok (.invokevirtual index, 3))
    (hcl : cells + cc ≤ R.cells) (hsl : slots + ss ≤ R.slots)
    (k : ∀ v T' h' L, Stand p l e R s m args below meth c T' (locs ++ L) (cells + cc) (slots + ss) → T'.heap = h' → Q v h' L → own_Run p e below Φ (T'.setTop { g with pc := g.pc + 3, stack := v.toList ++ rest })) : own_Run p e below Φ (T.setTop g) := by
  obtain ⟨cq, kq, qa, qb, qc⟩ := isOf hZ eT E
  obtain ⟨v, _, ⟨T', L', k', n'⟩, -, X', ⟨Lc, hQ, l1, y1, z1⟩, st⟩ := X.virtualBack hx (y := y) (z := z) hown (mvT hZ w1) (mvT hZ w2) hnf (mvT hZ w3) (mvT hZ w4) hy hK qa qc hg hsize (Steps.refl _) hlen hstack hW hdg (fun _ _ => ⟨rfl, eT, hcl, hsl⟩)
  dsimp only [Pt.U, Pt.locs, Pt.cells, Pt.slots] at X' l1 y1 z1 st hQ
  subst l1 y1 z1
  exact own_via st (k v T' _ Lc X' rfl hQ)
/-- an instance method that a superclass declares -/
theorem own_callU (X : Stand p l e R s m args below meth c T locs cells slots) (hx : p.tables.exec = Jvm.exec) (hZ : Z.Warmed39 s.vm) {own C owner : String} {index : Nat} {y z : MethodName} {cc ss : Nat}
    (hown : s.vm.findClass own = some m.cls) (w1 : (Jvm.Cond.methodLink own index y).before a0 Z = true) (w0 : (Jvm.Cond.sameMethod y.cls owner y.name y.desc).before a0 Z = true) (w2 : (Jvm.Cond.declares ⟨owner, y.name, y.desc⟩).before a0 Z = true) (w3 : (Jvm.Cond.selects C y z).before a0 Z = true) (w4 : (Jvm.Cond.instanceMethod z).before a0 Z = true)
    (hy : owner ≠ "java/lang/invoke/MethodHandle" ∧ owner ≠ "java/lang/invoke/VarHandle") {W : Nat} {a : Addr} {argsL rest : List Value} (hK : own_Bk l R p e below s args z W (.ref a :: argsL).toArray h cc ss Q) (eT : T.heap = h) (E : Exa Z h a C)
    {g : JFrame} (hg : g.method = m) (hsize : g.locals.size = c.maxLocals) (hlen : ∀ sig, parseMethodDescriptor y.desc = some sig → argsL.length = sig.parameters.length)
    (hstack : g.stack = argsL.reverse ++ .ref a :: rest) (hW : 2 * g.monitorRoom + (rest.map fun v => v.category).sum ≤ W) (hdg : decode c.code g.pc = .ok (.invokevirtual index, 3))
    (hcl : cells + cc ≤ R.cells) (hsl : slots + ss ≤ R.slots)
    (k : ∀ v T' h' L, Stand p l e R s m args below meth c T' (locs ++ L) (cells + cc) (slots + ss) → T'.heap = h' → Q v h' L → own_Run p e below Φ (T'.setTop { g with pc := g.pc + 3, stack := v.toList ++ rest })) : own_Run p e below Φ (T.setTop g) := by
  obtain ⟨cq, kq, qa, qb, qc⟩ := isOf hZ eT E
  obtain ⟨v, _, ⟨T', L', k', n'⟩, -, X', ⟨Lc, hQ, l1, y1, z1⟩, st⟩ := X.virtualBackUp hx (x := y) (y := z) hown (mvT hZ w1) (mvT hZ w0) (mvT hZ w2) hy (mvT hZ w3) (mvT hZ w4) hK qa qc hg hsize (Steps.refl _) hlen hstack hW hdg (fun _ _ => ⟨rfl, eT, hcl, hsl⟩)
  dsimp only [Pt.U, Pt.locs, Pt.cells, Pt.slots] at X' l1 y1 z1 st hQ
  subst l1 y1 z1
  exact own_via st (k v T' _ Lc X' rfl hQ)
/-- a private method by its contract -/
theorem own_callP (X : Stand p l e R s m args below meth c T locs cells slots) (hx : p.tables.exec = Jvm.exec) (hZ : Z.Warmed39 s.vm) {own C : String} {index : Nat} {y : MethodName} {bytes : ByteArray} {maxL : Nat} {ret : Option FieldType} {cc ss : Nat}
    (hown : s.vm.findClass own = some m.cls) (w1 : (Jvm.Cond.methodLink own index y).before a0 Z = true) (w2 : (Jvm.Cond.instanceMethod y).before a0 Z = true) (w3 : (Jvm.Cond.selects y.cls y y).before a0 Z = true) (w4 : (Jvm.Cond.privateMethod y).before a0 Z = true) (w6 : (Jvm.Cond.code y bytes maxL ret).before a0 Z = true)
    (hy : y.cls ≠ "java/lang/invoke/MethodHandle" ∧ y.cls ≠ "java/lang/invoke/VarHandle") {W : Nat} {a : Addr} {argsL rest : List Value} (hK : own_Bk l R p e below s args y W (.ref a :: argsL).toArray h cc ss Q) (eT : T.heap = h) (E : Exa Z h a C)
    {g : JFrame} (hg : g.method = m) (hsize : g.locals.size = c.maxLocals) (hlen : ∀ sig, parseMethodDescriptor y.desc = some sig → argsL.length = sig.parameters.length)
    (hstack : g.stack = argsL.reverse ++ .ref a :: rest) (hW : 2 * g.monitorRoom + (rest.map fun v => v.category).sum ≤ W) (hdg : decode c.code g.pc = .ok (.invokevirtual index, 3))
    (hcl : cells + cc ≤ R.cells) (hsl : slots + ss ≤ R.slots)
    (k : ∀ v T' h' L, Stand p l e R s m args below meth c T' (locs ++ L) (cells + cc) (slots + ss) → T'.heap = h' → Q v h' L → own_Run p e below Φ (T'.setTop { g with pc := g.pc + 3, stack := v.toList ++ rest })) : own_Run p e below Φ (T.setTop g) := by
  obtain ⟨cq, q1, q2⟩ := E.cell
  obtain ⟨v, _, ⟨T', L', k', n'⟩, -, X', ⟨Lc, hQ, l1, y1, z1⟩, st⟩ := X.privateBack hx (y := y) hown (mvT hZ w1) (mvT hZ w2) (mvT hZ w3) (Cond.privateMethod_at (mvP hZ w4 (args := #[]))) (mvT hZ w6) hy hK hg hsize (Steps.refl _) (a := a) (by rw [eT]; exact q1) q2 hlen hstack hW hdg (fun _ _ => ⟨rfl, eT, hcl, hsl⟩)
  dsimp only [Pt.U, Pt.locs, Pt.cells, Pt.slots] at X' l1 y1 z1 st hQ
  subst l1 y1 z1
  exact own_via st (k v T' _ Lc X' rfl hQ)
/-- arrays: reading -/
theorem own_iaload (X : Stand p l e R s m args below meth c T locs cells slots) (hx : p.tables.exec = Jvm.exec) (hZ : Z.Warmed39 s.vm) (eT : T.heap = h) {a : Addr} {k : ClassId} {z j : Int32} {vs : List Value} {dv v : Value} (V : Arv Z h a k .int z vs dv) (hj : ¬ j < 0 ∧ j < z) (hv : vs.getD j.toNatClampNeg dv = v)
    {g : JFrame} (hg : g.method = m) {rest : List Value} (hs : g.stack = .int j :: .ref a :: rest) (hd : decode c.code g.pc = .ok (.iaload, 1)) (r : own_Run p e below Φ (T.setTop { g with pc := g.pc + 1, stack := v :: rest })) : own_Run p e below Φ (T.setTop g) := by
  obtain ⟨cl, A, -, S, -, H, -⟩ := V
  exact own_go (fun t q => X.iaload hx (j := j) (v := v) (by rw [eT]; exact A.1) (State.isArrayOf_alike hZ.alike A.2.1) A.2.2 (inb_of S hj) (Has.at H (inb_of S hj) hv) hg hs hd t q) r
theorem own_laload (X : Stand p l e R s m args below meth c T locs cells slots) (hx : p.tables.exec = Jvm.exec) (hZ : Z.Warmed39 s.vm) (eT : T.heap = h) {a : Addr} {k : ClassId} {z j : Int32} {vs : List Value} {dv v : Value} (V : Arv Z h a k .long z vs dv) (hj : ¬ j < 0 ∧ j < z) (hv : vs.getD j.toNatClampNeg dv = v)
    {g : JFrame} (hg : g.method = m) {rest : List Value} (hs : g.stack = .int j :: .ref a :: rest) (hd : decode c.code g.pc = .ok (.laload, 1)) (r : own_Run p e below Φ (T.setTop { g with pc := g.pc + 1, stack := v :: rest })) : own_Run p e below Φ (T.setTop g) := by
  obtain ⟨cl, A, -, S, -, H, -⟩ := V
  exact own_go (fun t q => X.laload hx (j := j) (v := v) (by rw [eT]; exact A.1) (State.isArrayOf_alike hZ.alike A.2.1) A.2.2 (inb_of S hj) (Has.at H (inb_of S hj) hv) hg hs hd t q) r
theorem own_caload (X : Stand p l e R s m args below meth c T locs cells slots) (hx : p.tables.exec = Jvm.exec) (hZ : Z.Warmed39 s.vm) (eT : T.heap = h) {a : Addr} {k : ClassId} {z j : Int32} {vs : List Value} {dv v : Value} (V : Arv Z h a k .char z vs dv) (hj : ¬ j < 0 ∧ j < z) (hv : vs.getD j.toNatClampNeg dv = v)
    {g : JFrame} (hg : g.method = m) {rest : List Value} (hs : g.stack = .int j :: .ref a :: rest) (hd : decode c.code g.pc = .ok (.caload, 1)) (r : own_Run p e below Φ (T.setTop { g with pc := g.pc + 1, stack := v :: rest })) : own_Run p e below Φ (T.setTop g) := by
  obtain ⟨cl, A, -, S, -, H, -⟩ := V
  exact own_go (fun t q => X.caload hx (j := j) (v := v) (by rw [eT]; exact A.1) (State.isArrayOf_alike hZ.alike A.2.1) A.2.2 (inb_of S hj) (Has.at H (inb_of S hj) hv) hg hs hd t q) r
theorem own_baload (X : Stand p l e R s m args below meth c T locs cells slots) (hx : p.tables.exec = Jvm.exec) (hZ : Z.Warmed39 s.vm) (eT : T.heap = h) {a : Addr} {k : ClassId} {z j : Int32} {vs : List Value} {dv v : Value} (V : Arv Z h a k .byte z vs dv) (hj : ¬ j < 0 ∧ j < z) (hv : vs.getD j.toNatClampNeg dv = v)
    {g : JFrame} (hg : g.method = m) {rest : List Value} (hs : g.stack = .int j :: .ref a :: rest) (hd : decode c.code g.pc = .ok (.baload, 1)) (r : own_Run p e below Φ (T.setTop { g with pc := g.pc + 1, stack := v :: rest })) : own_Run p e below Φ (T.setTop g) := by
  obtain ⟨cl, A, -, S, -, H, -⟩ := V
  exact own_go (fun t q => X.baloadBytes hx (j := j) (v := v) (by rw [eT]; exact A.1) (State.isArrayOf_alike hZ.alike A.2.1) A.2.2 (inb_of S hj) (Has.at H (inb_of S hj) hv) hg hs hd t q) r
theorem own_arrlen (X : Stand p l e R s m args below meth c T locs cells slots) (hx : p.tables.exec = Jvm.exec) (hZ : Z.Warmed39 s.vm) (eT : T.heap = h) {a : Addr} {k : ClassId} {ty : FieldType} {z : Int32} {vs : List Value} {dv : Value} (V : Arv Z h a k ty z vs dv)
    {g : JFrame} (hg : g.method = m) {rest : List Value} (hs : g.stack = .ref a :: rest) (hd : decode c.code g.pc = .ok (.arraylength, 1)) (r : own_Run p e below Φ (T.setTop { g with pc := g.pc + 1, stack := .int z :: rest })) : own_Run p e below Φ (T.setTop g) := by
  obtain ⟨cl, A, -, S, M, -, -⟩ := V
  refine own_go (fun t q => X.arraylength hx (by rw [eT]; exact A.1) (State.isArrayOf_alike hZ.alike A.2.1) hg hs hd t q) ?_
  rw [len_of S M]; exact r
/-- arrays: writing -/
theorem own_iastore (X : Stand p l e R s m args below meth c T locs cells slots) (hx : p.tables.exec = Jvm.exec) (hZ : Z.Warmed39 s.vm) (eT : T.heap = h) {a : Addr} {k : ClassId} {z j x : Int32} {vs : List Value} {dv : Value} (V : Arv Z h a k .int z vs dv) (hj : ¬ j < 0 ∧ j < z) (i : Nat) (hi : j.toNatClampNeg = i) (hl : i < vs.length)
    {g : JFrame} (hg : g.method = m) {rest : List Value} (hs : g.stack = .int x :: .int j :: .ref a :: rest) (hd : decode c.code g.pc = .ok (.iastore, 1))
    (r : ∀ T' h', Stand p l e R s m args below meth c T' (locs ++ [⟨a, j.toNatClampNeg⟩]) cells slots → T'.heap = h' → Wr h h' a j.toNatClampNeg (.int x) → Arv Z h' a k .int z (vs.set i (.int x)) dv → own_Run p e below Φ (T'.setTop { g with pc := g.pc + 1, stack := rest })) : own_Run p e below Φ (T.setTop g) := by
  obtain ⟨cl, A, q, S, N, H, G⟩ := V
  obtain ⟨T', h', X', e', W, st⟩ := stI X hx hZ eT A (j := j) (inb_of S hj) hg hs hd
  exact own_go st (r T' h' X' e' W (Arv.set A q S N H G rfl W i hi hl))
theorem own_lastore (X : Stand p l e R s m args below meth c T locs cells slots) (hx : p.tables.exec = Jvm.exec) (hZ : Z.Warmed39 s.vm) (eT : T.heap = h) {a : Addr} {k : ClassId} {z j : Int32} {x : Int64} {vs : List Value} {dv : Value} (V : Arv Z h a k .long z vs dv) (hj : ¬ j < 0 ∧ j < z) (i : Nat) (hi : j.toNatClampNeg = i) (hl : i < vs.length)
    {g : JFrame} (hg : g.method = m) {rest : List Value} (hs : g.stack = .long x :: .int j :: .ref a :: rest) (hd : decode c.code g.pc = .ok (.lastore, 1))
    (r : ∀ T' h', Stand p l e R s m args below meth c T' (locs ++ [⟨a, j.toNatClampNeg⟩]) cells slots → T'.heap = h' → Wr h h' a j.toNatClampNeg (.long x) → Arv Z h' a k .long z (vs.set i (.long x)) dv → own_Run p e below Φ (T'.setTop { g with pc := g.pc + 1, stack := rest })) : own_Run p e below Φ (T.setTop g) := by
  obtain ⟨cl, A, q, S, N, H, G⟩ := V
  obtain ⟨T', h', X', e', W, st⟩ := stJ X hx hZ eT A (j := j) (inb_of S hj) hg hs hd
  exact own_go st (r T' h' X' e' W (Arv.set A q S N H G rfl W i hi hl))
theorem own_bastore (X : Stand p l e R s m args below meth c T locs cells slots) (hx : p.tables.exec = Jvm.exec) (hZ : Z.Warmed39 s.vm) (eT : T.heap = h) {a : Addr} {k : ClassId} {z j x : Int32} {vs : List Value} {dv : Value} (V : Arv Z h a k .byte z vs dv) (hj : ¬ j < 0 ∧ j < z) (i : Nat) (hi : j.toNatClampNeg = i) (hl : i < vs.length)
    {g : JFrame} (hg : g.method = m) {rest : List Value} (hs : g.stack = .int x :: .int j :: .ref a :: rest) (hd : decode c.code g.pc = .ok (.bastore, 1))
    (r : ∀ T' h', Stand p l e R s m args below meth c T' (locs ++ [⟨a, j.toNatClampNeg⟩]) cells slots → T'.heap = h' → Wr h h' a j.toNatClampNeg (.int x.toInt8.toInt32) → Arv Z h' a k .byte z (vs.set i (.int x.toInt8.toInt32)) dv → own_Run p e below Φ (T'.setTop { g with pc := g.pc + 1, stack := rest })) : own_Run p e below Φ (T.setTop g) := by
  obtain ⟨cl, A, q, S, N, H, G⟩ := V
  obtain ⟨T', h', X', e', W, st⟩ := stB X hx hZ eT A (j := j) (inb_of S hj) hg hs hd
  exact own_go st (r T' h' X' e' W (Arv.set A q S N H G (fits_nar_byte _) W i hi hl))
theorem own_castore (X : Stand p l e R s m args below meth c T locs cells slots) (hx : p.tables.exec = Jvm.exec) (hZ : Z.Warmed39 s.vm) (eT : T.heap = h) {a : Addr} {k : ClassId} {z j x : Int32} {vs : List Value} {dv : Value} (V : Arv Z h a k .char z vs dv) (hj : ¬ j < 0 ∧ j < z) (i : Nat) (hi : j.toNatClampNeg = i) (hl : i < vs.length)
    {g : JFrame} (hg : g.method = m) {rest : List Value} (hs : g.stack = .int x :: .int j :: .ref a :: rest) (hd : decode c.code g.pc = .ok (.castore, 1))
    (r : ∀ T' h', Stand p l e R s m args below meth c T' (locs ++ [⟨a, j.toNatClampNeg⟩]) cells slots → T'.heap = h' → Wr h h' a j.toNatClampNeg (.int (nar .char x)) → Arv Z h' a k .char z (vs.set i (.int (nar .char x))) dv → own_Run p e below Φ (T'.setTop { g with pc := g.pc + 1, stack := rest })) : own_Run p e below Φ (T.setTop g) := by
  obtain ⟨cl, A, q, S, N, H, G⟩ := V
  obtain ⟨T', h', X', e', W, st⟩ := stC X hx hZ eT A (j := j) (inb_of S hj) hg hs hd
  exact own_go st (r T' h' X' e' W (Arv.set A q S N H G (fits_nar_char _) W i hi hl))
theorem own_newP (X : Stand p l e R s m args below meth c T locs cells slots) (hx : p.tables.exec = Jvm.exec) (hZ : Z.Warmed39 s.vm) {aty : ArrayType} (w : (Jvm.Cond.arrayClass (newarray.typeOf aty)).before a0 Z = true) (eT : T.heap = h) {g : JFrame} (hg : g.method = m) (hd : decode c.code g.pc = .ok (.newarray aty, 2)) {n : Int32} {rest : List Value} (hs : g.stack = .int n :: rest)
    (hn : ¬ n < 0) (cap : Nat) (hcap : n.toNatClampNeg ≤ cap) (hb : cap * 8 ≤ 536870912) (hc : cells + 1 ≤ R.cells) (hl : slots + cap ≤ R.slots) (N : Nat)
    (r : ∀ T' h' cA a, Stand p l e R s m args below meth c T' locs (cells + 1) (slots + cap) → T'.heap = h' → Ext h h' → a = h.size → Arv Z h' a cA (newarray.typeOf aty) n (List.replicate N (defaultValue (newarray.typeOf aty))) (defaultValue (newarray.typeOf aty)) → own_Run p e below Φ (T'.setTop { g with pc := g.pc + 2, stack := .ref a :: rest })) : own_Run p e below Φ (T.setTop g) := by
  obtain ⟨T', h', cA, X', e', E, A, st⟩ := newP X hx hZ w eT hg hd hs hn hcap hb hc hl
  have V := Arv.new A hn
  have q : ∀ i, (List.replicate N (defaultValue (newarray.typeOf aty))).getD i (defaultValue (newarray.typeOf aty)) = ([] : List Value).getD i (defaultValue (newarray.typeOf aty)) := pad_rep [] (defaultValue (newarray.typeOf aty)) N
  exact own_go st (r T' h' cA h.size X' e' E rfl (V.pad q))
theorem own_le {a b c d : Nat} (h1 : a ≤ b) (h2 : b + c ≤ d) : a + c ≤ d := Nat.le_trans (Nat.add_le_add_right h1 c) h2
/-- the case's words on statics -/
theorem own_eqI {args : Array Value} {first s : State} {o : Option Outcome} {idx : List Nat} {t : Term} {k : Int32} (h : (Jvm.Cond.eq t (.int k)).value args first o s idx = some true) : t.eval args first o idx s = some (.int k) := by
  cases ht : t.eval args first o idx s with
  | none => simp [Cond.value, ht] at h
  | some x => cases x <;> simp [Cond.value, Term.eval, ht] at h ⊢; exact h
theorem own_fldI {args : Array Value} {t : Term} {x : Addr} {C n d : String} {k : Int32} (ht : t.eval args Z none [] Z = some (.ref x)) (h : (Jvm.Cond.eq (.field t C n d) (.int k)).value args Z none Z [] = some true) : Fld Z Z.heap x C n d (.int k) := Fld.start ((fld_at ht).symm.trans (own_eqI h))
end OwnRun
def own_pick (p : Int32) (w0 w1 w2 w3 : Addr) : Addr := if p = (0 : Int32) then w0 else if p = (1 : Int32) then w1 else if p = (2 : Int32) then w2 else w3
def own_in (a w1 w2 : Addr) : Int32 := if a = w1 then (1 : Int32) else if a = w2 then (1 : Int32) else (0 : Int32)
theorem own_and3 (x : Int32) : x &&& (3 : Int32) = (0 : Int32) ∨ x &&& (3 : Int32) = (1 : Int32) ∨ x &&& (3 : Int32) = (2 : Int32) ∨ x &&& (3 : Int32) = (3 : Int32) := by
  have h := c_mask x 3 2 (by decide) (by decide)
  simp only [← Int32.toInt_inj, Int32.reduceToInt]
  omega
theorem own_vne {i j : Int32} (h : i ≠ j) : Value.int i ≠ Value.int j := fun q => h (Value.int.inj q)
theorem d1_0 : decode method_2_code 0 = .ok (.iload_n 0, 1) := by decide +kernel
theorem d1_1 : decode method_2_code 1 = .ok (.ifCond .ne 7, 3) := by decide +kernel
theorem d1_4 : decode method_2_code 4 = .ok (.getstatic 7, 3) := by decide +kernel
theorem d1_7 : decode method_2_code 7 = .ok (.areturn, 1) := by decide +kernel
theorem d1_8 : decode method_2_code 8 = .ok (.iload_n 0, 1) := by decide +kernel
theorem d1_9 : decode method_2_code 9 = .ok (.iconst 1, 1) := by decide +kernel
theorem d1_10 : decode method_2_code 10 = .ok (.if_icmp .ne 7, 3) := by decide +kernel
theorem d1_13 : decode method_2_code 13 = .ok (.getstatic 13, 3) := by decide +kernel
theorem d1_16 : decode method_2_code 16 = .ok (.areturn, 1) := by decide +kernel
theorem d1_17 : decode method_2_code 17 = .ok (.iload_n 0, 1) := by decide +kernel
theorem d1_18 : decode method_2_code 18 = .ok (.iconst 2, 1) := by decide +kernel
theorem d1_19 : decode method_2_code 19 = .ok (.if_icmp .ne 7, 3) := by decide +kernel
theorem d1_22 : decode method_2_code 22 = .ok (.getstatic 16, 3) := by decide +kernel
theorem d1_25 : decode method_2_code 25 = .ok (.areturn, 1) := by decide +kernel
theorem d1_26 : decode method_2_code 26 = .ok (.getstatic 19, 3) := by decide +kernel
theorem d1_29 : decode method_2_code 29 = .ok (.areturn, 1) := by decide +kernel
theorem pn_c0 : plainName "com/example/glossyn/glossyn/query/OperatorKindAdmitsPinLaw" = true := by first | (simp [plainName, overriddenIn]; done) | decide +kernel
theorem ef_1_I (m : MethodId) (x0 : Int32) : entryFrame m #[(.int x0)] 1 = mkF m 0 #[.val (.int x0)] [] := by first | (simp [entryFrame, mkF, argsToLocals, Value.category]; done) | rfl
set_option maxRecDepth 65536 in
set_option maxHeartbeats 40000000 in
theorem rm_pick (l : Launch) (Z : State) (a0 : Array Value) (hw : ∀ d ∈ tables_1, d.before a0 Z = true) (p1 : Int32) (w0 : Addr) (w1 : Addr) (w2 : Addr) (w3 : Addr) (h0 : Heap) (n0 : Nat) (H1 : Old Z n0 h0) (H2 : Sta Z Z.heap "com/example/glossyn/glossyn/query/OperatorKind" "SUM" "Lcom/example/glossyn/glossyn/query/OperatorKind;" (.ref w0)) (H3 : Sta Z Z.heap "com/example/glossyn/glossyn/query/OperatorKind" "SYN" "Lcom/example/glossyn/glossyn/query/OperatorKind;" (.ref w1)) (H4 : Sta Z Z.heap "com/example/glossyn/glossyn/query/OperatorKind" "UW" "Lcom/example/glossyn/glossyn/query/OperatorKind;" (.ref w2)) (H5 : Sta Z Z.heap "com/example/glossyn/glossyn/query/OperatorKind" "BAND" "Lcom/example/glossyn/glossyn/query/OperatorKind;" (.ref w3)) :
    own_Met l Z (⟨"com/example/glossyn/glossyn/query/OperatorKindAdmitsPinLaw", "pick", "(I)Lcom/example/glossyn/glossyn/query/OperatorKind;"⟩ : MethodName) method_2_code 1 (some (.object "com/example/glossyn/glossyn/query/OperatorKind")) ({ frames := 0, cells := 0, slots := 0, locals := 0 } : Room) #[(.int p1)] h0 (fun v h L => v = some (.ref (own_pick p1 w0 w1 w2 w3)) ∧ Fr n0 L ∧ h = h0) := by
  intro ws
  refine MetFree.of_bodySF (plainFor_of_name pn_c0) hisR ?_
  intro p e s m args below meth c s₁ Bd hml0 hP hK
  obtain ⟨rfl, hZ, hh⟩ := hP
  have hx := Bd.exec
  have hby := Bd.bytes
  have hml : c.maxLocals = 1 := hml0
  have hown : s.vm.findClass "com/example/glossyn/glossyn/query/OperatorKindAdmitsPinLaw" = some m.cls := findClass_of_methodNamed Bd.named
  have hnm := (name_of_methodNamed Bd.named Bd.method).1
  have hlk : meth.locks = false := Bd.notSynchronized
  have X0 : Stand p l e ({ frames := 0, cells := 0, slots := 0, locals := 0 } : Room) s m #[(.int p1)] below meth c s₁ [] 0 0 := Stand.of_body Bd
  have e0 : s₁.heap = h0 := by rw [← hh, Bd.state]; rfl
  have N0 := Fr.nil n0
  refine own_body (Q := fun v h L => v = some (.ref (own_pick p1 w0 w1 w2 w3)) ∧ Fr n0 L ∧ h = h0) ?_
  generalize hΦ : own_Fin s below _ _ _ = Φ
  refine own_cast (ef_1_I m p1) ?_
  show own_Run p e below Φ (s₁.setTop (mkF m 0 #[.val (.int p1)] []))
  refine own_go (fun t k => XS.iloadN X0.here hx rfl (hb hby d1_0) rfl  k) ?_
  by_cases hc1 : p1 = (0 : Int32)
  · refine own_go (fun t k => XS.ifNo X0.here hx rfl (hb hby d1_1) rfl ((if0 _ _).trans (teq hc1).2) k) ?_
    obtain ⟨T1, X1, e1, st1⟩ := getS2 X0 hx hZ hown (host := "") (Or.inl (hw _ (List.mem_of_getElem? (i := 4) rfl))) Via.refl e0 (H2.ext H1.2) (g := (mkF m 4 #[.val (.int p1)] [])) rfl (hb hby d1_4)
    refine own_go st1 ?_
    subst hΦ
    exact own_retO X1 hx (t := (.object "com/example/glossyn/glossyn/query/OperatorKind")) Bd.returns rfl (Or.inr (Or.inr (Or.inr (Or.inr ⟨rfl, rfl, rfl⟩)))) hlk (hb hby d1_7) e1 ⟨(by simp [own_pick, hc1]), N0, rfl⟩ (by decide) (by decide)
  · refine own_go (fun t k => XS.ifYes X0.here hx rfl (pc0 := 1) (pc' := 8) rfl (hb hby d1_1) rfl ((if0 _ _).trans (feq hc1).2) (by decide) (by decide) k) ?_
    refine own_go (fun t k => XS.iloadN X0.here hx rfl (hb hby d1_8) rfl  k) ?_
    show own_Run p e below Φ (s₁.setTop (mkF m 9 #[.val (.int p1)] [(.int p1)]))
    refine own_go (fun t k => XS.iconst X0.here hx rfl (hb hby d1_9) k) ?_
    by_cases hc10 : p1 = (1 : Int32)
    · refine own_go (fun t k => XS.icmpNo X0.here hx rfl (hb hby d1_10) rfl (teq hc10).2 k) ?_
      obtain ⟨T2, X2, e2, st2⟩ := getS2 X0 hx hZ hown (host := "") (Or.inl (hw _ (List.mem_of_getElem? (i := 25) rfl))) Via.refl e0 (H3.ext H1.2) (g := (mkF m 13 #[.val (.int p1)] [])) rfl (hb hby d1_13)
      refine own_go st2 ?_
      subst hΦ
      exact own_retO X2 hx (t := (.object "com/example/glossyn/glossyn/query/OperatorKind")) Bd.returns rfl (Or.inr (Or.inr (Or.inr (Or.inr ⟨rfl, rfl, rfl⟩)))) hlk (hb hby d1_16) e2 ⟨(by simp [own_pick, hc1, hc10]), N0, rfl⟩ (by decide) (by decide)
    · refine own_go (fun t k => XS.icmpYes X0.here hx rfl (pc0 := 10) (pc' := 17) rfl (hb hby d1_10) rfl (feq hc10).2 (by decide) (by decide) k) ?_
      refine own_go (fun t k => XS.iloadN X0.here hx rfl (hb hby d1_17) rfl  k) ?_
      show own_Run p e below Φ (s₁.setTop (mkF m 18 #[.val (.int p1)] [(.int p1)]))
      refine own_go (fun t k => XS.iconst X0.here hx rfl (hb hby d1_18) k) ?_
      by_cases hc19 : p1 = (2 : Int32)
      · refine own_go (fun t k => XS.icmpNo X0.here hx rfl (hb hby d1_19) rfl (teq hc19).2 k) ?_
        obtain ⟨T3, X3, e3, st3⟩ := getS2 X0 hx hZ hown (host := "") (Or.inl (hw _ (List.mem_of_getElem? (i := 23) rfl))) Via.refl e0 (H4.ext H1.2) (g := (mkF m 22 #[.val (.int p1)] [])) rfl (hb hby d1_22)
        refine own_go st3 ?_
        subst hΦ
        exact own_retO X3 hx (t := (.object "com/example/glossyn/glossyn/query/OperatorKind")) Bd.returns rfl (Or.inr (Or.inr (Or.inr (Or.inr ⟨rfl, rfl, rfl⟩)))) hlk (hb hby d1_25) e3 ⟨(by simp [own_pick, hc1, hc10, hc19]), N0, rfl⟩ (by decide) (by decide)
      · refine own_go (fun t k => XS.icmpYes X0.here hx rfl (pc0 := 19) (pc' := 26) rfl (hb hby d1_19) rfl (feq hc19).2 (by decide) (by decide) k) ?_
        obtain ⟨T4, X4, e4, st4⟩ := getS2 X0 hx hZ hown (host := "") (Or.inl (hw _ (List.mem_of_getElem? (i := 7) rfl))) Via.refl e0 (H5.ext H1.2) (g := (mkF m 26 #[.val (.int p1)] [])) rfl (hb hby d1_26)
        refine own_go st4 ?_
        show own_Run p e below Φ (T4.setTop (mkF m 29 #[.val (.int p1)] [(.ref w3)]))
        subst hΦ
        exact own_retO X4 hx (t := (.object "com/example/glossyn/glossyn/query/OperatorKind")) Bd.returns rfl (Or.inr (Or.inr (Or.inr (Or.inr ⟨rfl, rfl, rfl⟩)))) hlk (hb hby d1_29) e4 ⟨(by simp [own_pick, hc1, hc10, hc19]), N0, rfl⟩ (by decide) (by decide)
theorem d3_0 : decode jdk_37_method_2_code 0 = .ok (.aload_n 0, 1) := by decide +kernel
theorem d3_1 : decode jdk_37_method_2_code 1 = .ok (.getfield 7, 3) := by decide +kernel
theorem d3_4 : decode jdk_37_method_2_code 4 = .ok (.ireturn, 1) := by decide +kernel
theorem pn_c2 : plainName "java/lang/Enum" = true := by first | (simp [plainName, overriddenIn]; done) | decide +kernel
theorem ef_3_R (m : MethodId) (x0 : Addr) : entryFrame m #[(.ref x0)] 1 = mkF m 0 #[.val (.ref x0)] [] := by first | (simp [entryFrame, mkF, argsToLocals, Value.category]; done) | rfl
set_option maxRecDepth 65536 in
set_option maxHeartbeats 40000000 in
theorem rm_ord (l : Launch) (Z : State) (a0 : Array Value) (hw : ∀ d ∈ tables_1, d.before a0 Z = true) (a1 : Addr) (p2 : Int32) (h0 : Heap) (n0 : Nat) (H1 : Fld Z h0 a1 "java/lang/Enum" "ordinal" "I" (.int p2)) :
    own_Met l Z (⟨"java/lang/Enum", "ordinal", "()I"⟩ : MethodName) jdk_37_method_2_code 1 (some .int) ({ frames := 0, cells := 0, slots := 0, locals := 0 } : Room) #[(.ref a1)] h0 (fun v h L => v = some (.int p2) ∧ Fr n0 L ∧ h = h0) := by
  intro ws
  refine MetFree.of_bodySF (plainFor_of_name pn_c2) hisR ?_
  intro p e s m args below meth c s₁ Bd hml0 hP hK
  obtain ⟨rfl, hZ, hh⟩ := hP
  have hx := Bd.exec
  have hby := Bd.bytes
  have hml : c.maxLocals = 1 := hml0
  have hown : s.vm.findClass "java/lang/Enum" = some m.cls := findClass_of_methodNamed Bd.named
  have hnm := (name_of_methodNamed Bd.named Bd.method).1
  have hlk : meth.locks = false := Bd.notSynchronized
  have X0 : Stand p l e ({ frames := 0, cells := 0, slots := 0, locals := 0 } : Room) s m #[(.ref a1)] below meth c s₁ [] 0 0 := Stand.of_body Bd
  have e0 : s₁.heap = h0 := by rw [← hh, Bd.state]; rfl
  have N0 := Fr.nil n0
  refine own_body (Q := fun v h L => v = some (.int p2) ∧ Fr n0 L ∧ h = h0) ?_
  generalize hΦ : own_Fin s below _ _ _ = Φ
  refine own_cast (ef_3_R m a1) ?_
  show own_Run p e below Φ (s₁.setTop (mkF m 0 #[.val (.ref a1)] []))
  refine own_go (fun t k => XS.aloadN X0.here hx rfl (hb hby d3_0) rfl rfl  k) ?_
  obtain ⟨T1, X1, e1, st1⟩ := getF X0 hx hZ hown (host := "") (Or.inl (hw _ (List.mem_of_getElem? (i := 21) rfl))) Via.refl e0 H1 (g := (mkF m 1 #[.val (.ref a1)] [(.ref a1)])) rfl rfl (hb hby d3_1)
  refine own_go st1 ?_
  subst hΦ
  exact own_retI X1 hx Bd.returns hlk (hb hby d3_4) e1 ⟨rfl, N0, rfl⟩ (by decide) (by decide)
theorem d2_0 : decode prog_26_method_7_code 0 = .ok (.aload_n 0, 1) := by decide +kernel
theorem d2_1 : decode prog_26_method_7_code 1 = .ok (.invokevirtual 67, 3) := by decide +kernel
theorem d2_4 : decode prog_26_method_7_code 4 = .ok (.tableswitch 32 0 3 #[42, 46, 68, 46], 32) := by decide +kernel
theorem d2_46 : decode prog_26_method_7_code 46 = .ok (.iconst 1, 1) := by decide +kernel
theorem d2_47 : decode prog_26_method_7_code 47 = .ok (.goto 26, 3) := by decide +kernel
theorem d2_73 : decode prog_26_method_7_code 73 = .ok (.ireturn, 1) := by decide +kernel
theorem pn_c1 : plainName "com/example/glossyn/glossyn/query/OperatorKind" = true := by first | (simp [plainName, overriddenIn]; done) | decide +kernel
theorem pd_2 : parseMethodDescriptor "()I" = some ⟨[], some .int⟩ := by decide +kernel
theorem ef_2_RR (m : MethodId) (x0 : Addr) (x1 : Addr) : entryFrame m #[(.ref x0), (.ref x1)] 2 = mkF m 0 #[.val (.ref x0), .val (.ref x1)] [] := by first | (simp [entryFrame, mkF, argsToLocals, Value.category]; done) | rfl
set_option maxRecDepth 65536 in
set_option maxHeartbeats 40000000 in
theorem rm_adm0 (l : Launch) (Z : State) (a0 : Array Value) (hw : ∀ d ∈ tables_1, d.before a0 Z = true) (a1 : Addr) (a2 : Addr) (w1 : Addr) (w2 : Addr) (h0 : Heap) (n0 : Nat) (H1 : Exa Z h0 a1 "com/example/glossyn/glossyn/query/OperatorKind") (H2 : Fld Z h0 a1 "java/lang/Enum" "ordinal" "I" (.int (0 : Int32))) (H3 : Old Z n0 h0) (H4 : Sta Z Z.heap "com/example/glossyn/glossyn/query/OperatorKind" "SYN" "Lcom/example/glossyn/glossyn/query/OperatorKind;" (.ref w1)) (H5 : Sta Z Z.heap "com/example/glossyn/glossyn/query/OperatorKind" "UW" "Lcom/example/glossyn/glossyn/query/OperatorKind;" (.ref w2)) :
    own_Met l Z (⟨"com/example/glossyn/glossyn/query/OperatorKind", "admits", "(Lcom/example/glossyn/glossyn/query/OperatorKind;)Z"⟩ : MethodName) prog_26_method_7_code 2 (some .boolean) ({ frames := 1, cells := 0, slots := 0, locals := 12 } : Room) #[(.ref a1), (.ref a2)] h0 (fun v h L => v = some (.int (1 : Int32)) ∧ Fr n0 L ∧ h = h0) := by
  intro ws
  refine MetFree.of_bodySF (plainFor_of_name pn_c1) hisR ?_
  intro p e s m args below meth c s₁ Bd hml0 hP hK
  obtain ⟨rfl, hZ, hh⟩ := hP
  have hx := Bd.exec
  have hby := Bd.bytes
  have hml : c.maxLocals = 2 := hml0
  have hown : s.vm.findClass "com/example/glossyn/glossyn/query/OperatorKind" = some m.cls := findClass_of_methodNamed Bd.named
  have hnm := (name_of_methodNamed Bd.named Bd.method).1
  have hlk : meth.locks = false := Bd.notSynchronized
  have X0 : Stand p l e ({ frames := 1, cells := 0, slots := 0, locals := 12 } : Room) s m #[(.ref a1), (.ref a2)] below meth c s₁ [] 0 0 := Stand.of_body Bd
  have e0 : s₁.heap = h0 := by rw [← hh, Bd.state]; rfl
  have N0 := Fr.nil n0
  refine own_body (Q := fun v h L => v = some (.int (1 : Int32)) ∧ Fr n0 L ∧ h = h0) ?_
  generalize hΦ : own_Fin s below _ _ _ = Φ
  refine own_cast (ef_2_RR m a1 a2) ?_
  show own_Run p e below Φ (s₁.setTop (mkF m 0 #[.val (.ref a1), .val (.ref a2)] []))
  refine own_go (fun t k => XS.aloadN X0.here hx rfl (hb hby d2_0) rfl rfl  k) ?_
  refine own_callU X0 hx hZ (y := (⟨"com/example/glossyn/glossyn/query/OperatorKind", "ordinal", "()I"⟩ : MethodName)) (z := (⟨"java/lang/Enum", "ordinal", "()I"⟩ : MethodName)) (W := 0) (a := a1) (argsL := []) (rest := []) hown (hw _ (List.mem_of_getElem? (i := 14) rfl)) (hw _ (List.mem_of_getElem? (i := 15) rfl)) (hw _ (List.mem_of_getElem? (i := 16) rfl)) (hw _ (List.mem_of_getElem? (i := 18) rfl)) (hw _ (List.mem_of_getElem? (i := 17) rfl)) (by decide) (own_bk (rm_ord l Z a0 hw a1 (0 : Int32) h0 n0 H2) hZ (hw _ (List.mem_of_getElem? (i := 20) rfl)) (hw _ (List.mem_of_getElem? (i := 19) rfl)) (by decide) (by decide)) e0 H1 (g := (mkF m 1 #[.val (.ref a1), .val (.ref a2)] [(.ref a1)])) rfl (by rw [hml]; rfl) (lenOf pd_2 rfl) rfl (by show 2 * 0 + _ ≤ _; exact Nat.le_of_eq rfl) (hb hby d2_1) (by decide) (by decide) (fun v1 T1 h1 L1 X1 e1 q1 => ?_)
  obtain ⟨rfl, M1, s1⟩ := q1
  replace e1 : T1.heap = h0 := e1.trans s1
  have N1 := Fr.app N0 M1
  refine own_go (fun t k => XS.tswIn X1.here hx rfl (pc0 := 4) (pc' := 46) (o := 42) rfl (hb hby d2_4) rfl (by decide) (by decide) (by decide) (by decide) k) ?_
  refine own_go (fun t k => XS.iconst X1.here hx rfl (hb hby d2_46) k) ?_
  refine own_go (fun t k => XS.goto X1.here hx rfl (pc0 := 47) (pc' := 73) rfl (hb hby d2_47) (by decide) (by decide) k) ?_
  show own_Run p e below Φ (T1.setTop (mkF m 73 #[.val (.ref a1), .val (.ref a2)] [(.int (1 : Int32))]))
  subst hΦ
  exact own_retN X1 hx (t := .boolean) Bd.returns (by simp) hlk (hb hby d2_73) e1 ⟨rfl, N1, rfl⟩ (by decide) (by decide)
theorem d2_50 : decode prog_26_method_7_code 50 = .ok (.aload_n 1, 1) := by decide +kernel
theorem d2_51 : decode prog_26_method_7_code 51 = .ok (.getstatic 7, 3) := by decide +kernel
theorem d2_54 : decode prog_26_method_7_code 54 = .ok (.if_acmp .eq 10, 3) := by decide +kernel
theorem d2_57 : decode prog_26_method_7_code 57 = .ok (.aload_n 1, 1) := by decide +kernel
theorem d2_58 : decode prog_26_method_7_code 58 = .ok (.getstatic 10, 3) := by decide +kernel
theorem d2_61 : decode prog_26_method_7_code 61 = .ok (.if_acmp .ne 7, 3) := by decide +kernel
theorem d2_64 : decode prog_26_method_7_code 64 = .ok (.iconst 1, 1) := by decide +kernel
theorem d2_65 : decode prog_26_method_7_code 65 = .ok (.goto 8, 3) := by decide +kernel
theorem d2_68 : decode prog_26_method_7_code 68 = .ok (.iconst 0, 1) := by decide +kernel
theorem d2_69 : decode prog_26_method_7_code 69 = .ok (.goto 4, 3) := by decide +kernel
set_option maxRecDepth 65536 in
set_option maxHeartbeats 40000000 in
theorem rm_adm1 (l : Launch) (Z : State) (a0 : Array Value) (hw : ∀ d ∈ tables_1, d.before a0 Z = true) (a1 : Addr) (a2 : Addr) (w1 : Addr) (w2 : Addr) (h0 : Heap) (n0 : Nat) (H1 : Exa Z h0 a1 "com/example/glossyn/glossyn/query/OperatorKind") (H2 : Fld Z h0 a1 "java/lang/Enum" "ordinal" "I" (.int (1 : Int32))) (H3 : Old Z n0 h0) (H4 : Sta Z Z.heap "com/example/glossyn/glossyn/query/OperatorKind" "SYN" "Lcom/example/glossyn/glossyn/query/OperatorKind;" (.ref w1)) (H5 : Sta Z Z.heap "com/example/glossyn/glossyn/query/OperatorKind" "UW" "Lcom/example/glossyn/glossyn/query/OperatorKind;" (.ref w2)) :
    own_Met l Z (⟨"com/example/glossyn/glossyn/query/OperatorKind", "admits", "(Lcom/example/glossyn/glossyn/query/OperatorKind;)Z"⟩ : MethodName) prog_26_method_7_code 2 (some .boolean) ({ frames := 1, cells := 0, slots := 0, locals := 12 } : Room) #[(.ref a1), (.ref a2)] h0 (fun v h L => v = some (.int (own_in a2 w1 w2)) ∧ Fr n0 L ∧ h = h0) := by
  intro ws
  refine MetFree.of_bodySF (plainFor_of_name pn_c1) hisR ?_
  intro p e s m args below meth c s₁ Bd hml0 hP hK
  obtain ⟨rfl, hZ, hh⟩ := hP
  have hx := Bd.exec
  have hby := Bd.bytes
  have hml : c.maxLocals = 2 := hml0
  have hown : s.vm.findClass "com/example/glossyn/glossyn/query/OperatorKind" = some m.cls := findClass_of_methodNamed Bd.named
  have hnm := (name_of_methodNamed Bd.named Bd.method).1
  have hlk : meth.locks = false := Bd.notSynchronized
  have X0 : Stand p l e ({ frames := 1, cells := 0, slots := 0, locals := 12 } : Room) s m #[(.ref a1), (.ref a2)] below meth c s₁ [] 0 0 := Stand.of_body Bd
  have e0 : s₁.heap = h0 := by rw [← hh, Bd.state]; rfl
  have N0 := Fr.nil n0
  refine own_body (Q := fun v h L => v = some (.int (own_in a2 w1 w2)) ∧ Fr n0 L ∧ h = h0) ?_
  generalize hΦ : own_Fin s below _ _ _ = Φ
  refine own_cast (ef_2_RR m a1 a2) ?_
  show own_Run p e below Φ (s₁.setTop (mkF m 0 #[.val (.ref a1), .val (.ref a2)] []))
  refine own_go (fun t k => XS.aloadN X0.here hx rfl (hb hby d2_0) rfl rfl  k) ?_
  refine own_callU X0 hx hZ (y := (⟨"com/example/glossyn/glossyn/query/OperatorKind", "ordinal", "()I"⟩ : MethodName)) (z := (⟨"java/lang/Enum", "ordinal", "()I"⟩ : MethodName)) (W := 0) (a := a1) (argsL := []) (rest := []) hown (hw _ (List.mem_of_getElem? (i := 14) rfl)) (hw _ (List.mem_of_getElem? (i := 15) rfl)) (hw _ (List.mem_of_getElem? (i := 16) rfl)) (hw _ (List.mem_of_getElem? (i := 18) rfl)) (hw _ (List.mem_of_getElem? (i := 17) rfl)) (by decide) (own_bk (rm_ord l Z a0 hw a1 (1 : Int32) h0 n0 H2) hZ (hw _ (List.mem_of_getElem? (i := 20) rfl)) (hw _ (List.mem_of_getElem? (i := 19) rfl)) (by decide) (by decide)) e0 H1 (g := (mkF m 1 #[.val (.ref a1), .val (.ref a2)] [(.ref a1)])) rfl (by rw [hml]; rfl) (lenOf pd_2 rfl) rfl (by show 2 * 0 + _ ≤ _; exact Nat.le_of_eq rfl) (hb hby d2_1) (by decide) (by decide) (fun v1 T1 h1 L1 X1 e1 q1 => ?_)
  obtain ⟨rfl, M1, s1⟩ := q1
  replace e1 : T1.heap = h0 := e1.trans s1
  have N1 := Fr.app N0 M1
  refine own_go (fun t k => XS.tswIn X1.here hx rfl (pc0 := 4) (pc' := 50) (o := 46) rfl (hb hby d2_4) rfl (by decide) (by decide) (by decide) (by decide) k) ?_
  refine own_go (fun t k => XS.aloadN X1.here hx rfl (hb hby d2_50) rfl rfl  k) ?_
  obtain ⟨T2, X2, e2, st2⟩ := getS2 X1 hx hZ hown (host := "") (Or.inl (hw _ (List.mem_of_getElem? (i := 27) rfl))) Via.refl e1 (H4.ext H3.2) (g := (mkF m 51 #[.val (.ref a1), .val (.ref a2)] [(.ref a2)])) rfl (hb hby d2_51)
  refine own_go st2 ?_
  show own_Run p e below Φ (T2.setTop (mkF m 54 #[.val (.ref a1), .val (.ref a2)] [(.ref w1), (.ref a2)]))
  by_cases hc54 : a2 = w1
  · refine own_go (fun t k => Jvm.RoadKit.acmp (g := (mkF m 54 #[.val (.ref a1), .val (.ref a2)] [(.ref w1), (.ref a2)])) X2 hx rfl rfl rfl (pc0 := 54) (pc' := 64) (same := true) rfl (hb hby d2_54) rfl (decide_eq_true (congrArg Value.ref hc54)) (by decide) (by decide) k) ?_
    refine own_go (fun t k => XS.iconst X2.here hx rfl (hb hby d2_64) k) ?_
    refine own_go (fun t k => XS.goto X2.here hx rfl (pc0 := 65) (pc' := 73) rfl (hb hby d2_65) (by decide) (by decide) k) ?_
    subst hΦ
    exact own_retN X2 hx (t := .boolean) Bd.returns (by simp) hlk (hb hby d2_73) e2 ⟨(by unfold own_in; rw [if_pos hc54]; rfl), N1, rfl⟩ (by decide) (by decide)
  · refine own_go (fun t k => Jvm.RoadKit.acmp (g := (mkF m 54 #[.val (.ref a1), .val (.ref a2)] [(.ref w1), (.ref a2)])) X2 hx rfl rfl rfl (pc0 := 54) (pc' := 57) (same := false) rfl (hb hby d2_54) rfl (decide_eq_false fun q => hc54 (Value.ref.inj q)) (by decide) (by decide) k) ?_
    refine own_go (fun t k => XS.aloadN X2.here hx rfl (hb hby d2_57) rfl rfl  k) ?_
    show own_Run p e below Φ (T2.setTop (mkF m 58 #[.val (.ref a1), .val (.ref a2)] [(.ref a2)]))
    obtain ⟨T3, X3, e3, st3⟩ := getS2 X2 hx hZ hown (host := "") (Or.inl (hw _ (List.mem_of_getElem? (i := 28) rfl))) Via.refl e2 (H5.ext H3.2) (g := (mkF m 58 #[.val (.ref a1), .val (.ref a2)] [(.ref a2)])) rfl (hb hby d2_58)
    refine own_go st3 ?_
    by_cases hc61 : a2 = w2
    · refine own_go (fun t k => Jvm.RoadKit.acmp (g := (mkF m 61 #[.val (.ref a1), .val (.ref a2)] [(.ref w2), (.ref a2)])) X3 hx rfl rfl rfl (pc0 := 61) (pc' := 64) (same := true) rfl (hb hby d2_61) rfl (decide_eq_true (congrArg Value.ref hc61)) (by decide) (by decide) k) ?_
      refine own_go (fun t k => XS.iconst X3.here hx rfl (hb hby d2_64) k) ?_
      refine own_go (fun t k => XS.goto X3.here hx rfl (pc0 := 65) (pc' := 73) rfl (hb hby d2_65) (by decide) (by decide) k) ?_
      subst hΦ
      exact own_retN X3 hx (t := .boolean) Bd.returns (by simp) hlk (hb hby d2_73) e3 ⟨(by unfold own_in; rw [if_neg hc54, if_pos hc61]; rfl), N1, rfl⟩ (by decide) (by decide)
    · refine own_go (fun t k => Jvm.RoadKit.acmp (g := (mkF m 61 #[.val (.ref a1), .val (.ref a2)] [(.ref w2), (.ref a2)])) X3 hx rfl rfl rfl (pc0 := 61) (pc' := 68) (same := false) rfl (hb hby d2_61) rfl (decide_eq_false fun q => hc61 (Value.ref.inj q)) (by decide) (by decide) k) ?_
      show own_Run p e below Φ (T3.setTop (mkF m 68 #[.val (.ref a1), .val (.ref a2)] []))
      refine own_go (fun t k => XS.iconst X3.here hx rfl (hb hby d2_68) k) ?_
      refine own_go (fun t k => XS.goto X3.here hx rfl (pc0 := 69) (pc' := 73) rfl (hb hby d2_69) (by decide) (by decide) k) ?_
      subst hΦ
      exact own_retN X3 hx (t := .boolean) Bd.returns (by simp) hlk (hb hby d2_73) e3 ⟨(by unfold own_in; rw [if_neg hc54, if_neg hc61]; rfl), N1, rfl⟩ (by decide) (by decide)
theorem d2_72 : decode prog_26_method_7_code 72 = .ok (.iconst 0, 1) := by decide +kernel
set_option maxRecDepth 65536 in
set_option maxHeartbeats 40000000 in
theorem rm_adm2 (l : Launch) (Z : State) (a0 : Array Value) (hw : ∀ d ∈ tables_1, d.before a0 Z = true) (a1 : Addr) (a2 : Addr) (w1 : Addr) (w2 : Addr) (h0 : Heap) (n0 : Nat) (H1 : Exa Z h0 a1 "com/example/glossyn/glossyn/query/OperatorKind") (H2 : Fld Z h0 a1 "java/lang/Enum" "ordinal" "I" (.int (2 : Int32))) (H3 : Old Z n0 h0) (H4 : Sta Z Z.heap "com/example/glossyn/glossyn/query/OperatorKind" "SYN" "Lcom/example/glossyn/glossyn/query/OperatorKind;" (.ref w1)) (H5 : Sta Z Z.heap "com/example/glossyn/glossyn/query/OperatorKind" "UW" "Lcom/example/glossyn/glossyn/query/OperatorKind;" (.ref w2)) :
    own_Met l Z (⟨"com/example/glossyn/glossyn/query/OperatorKind", "admits", "(Lcom/example/glossyn/glossyn/query/OperatorKind;)Z"⟩ : MethodName) prog_26_method_7_code 2 (some .boolean) ({ frames := 1, cells := 0, slots := 0, locals := 12 } : Room) #[(.ref a1), (.ref a2)] h0 (fun v h L => v = some (.int (0 : Int32)) ∧ Fr n0 L ∧ h = h0) := by
  intro ws
  refine MetFree.of_bodySF (plainFor_of_name pn_c1) hisR ?_
  intro p e s m args below meth c s₁ Bd hml0 hP hK
  obtain ⟨rfl, hZ, hh⟩ := hP
  have hx := Bd.exec
  have hby := Bd.bytes
  have hml : c.maxLocals = 2 := hml0
  have hown : s.vm.findClass "com/example/glossyn/glossyn/query/OperatorKind" = some m.cls := findClass_of_methodNamed Bd.named
  have hnm := (name_of_methodNamed Bd.named Bd.method).1
  have hlk : meth.locks = false := Bd.notSynchronized
  have X0 : Stand p l e ({ frames := 1, cells := 0, slots := 0, locals := 12 } : Room) s m #[(.ref a1), (.ref a2)] below meth c s₁ [] 0 0 := Stand.of_body Bd
  have e0 : s₁.heap = h0 := by rw [← hh, Bd.state]; rfl
  have N0 := Fr.nil n0
  refine own_body (Q := fun v h L => v = some (.int (0 : Int32)) ∧ Fr n0 L ∧ h = h0) ?_
  generalize hΦ : own_Fin s below _ _ _ = Φ
  refine own_cast (ef_2_RR m a1 a2) ?_
  show own_Run p e below Φ (s₁.setTop (mkF m 0 #[.val (.ref a1), .val (.ref a2)] []))
  refine own_go (fun t k => XS.aloadN X0.here hx rfl (hb hby d2_0) rfl rfl  k) ?_
  refine own_callU X0 hx hZ (y := (⟨"com/example/glossyn/glossyn/query/OperatorKind", "ordinal", "()I"⟩ : MethodName)) (z := (⟨"java/lang/Enum", "ordinal", "()I"⟩ : MethodName)) (W := 0) (a := a1) (argsL := []) (rest := []) hown (hw _ (List.mem_of_getElem? (i := 14) rfl)) (hw _ (List.mem_of_getElem? (i := 15) rfl)) (hw _ (List.mem_of_getElem? (i := 16) rfl)) (hw _ (List.mem_of_getElem? (i := 18) rfl)) (hw _ (List.mem_of_getElem? (i := 17) rfl)) (by decide) (own_bk (rm_ord l Z a0 hw a1 (2 : Int32) h0 n0 H2) hZ (hw _ (List.mem_of_getElem? (i := 20) rfl)) (hw _ (List.mem_of_getElem? (i := 19) rfl)) (by decide) (by decide)) e0 H1 (g := (mkF m 1 #[.val (.ref a1), .val (.ref a2)] [(.ref a1)])) rfl (by rw [hml]; rfl) (lenOf pd_2 rfl) rfl (by show 2 * 0 + _ ≤ _; exact Nat.le_of_eq rfl) (hb hby d2_1) (by decide) (by decide) (fun v1 T1 h1 L1 X1 e1 q1 => ?_)
  obtain ⟨rfl, M1, s1⟩ := q1
  replace e1 : T1.heap = h0 := e1.trans s1
  have N1 := Fr.app N0 M1
  refine own_go (fun t k => XS.tswIn X1.here hx rfl (pc0 := 4) (pc' := 72) (o := 68) rfl (hb hby d2_4) rfl (by decide) (by decide) (by decide) (by decide) k) ?_
  refine own_go (fun t k => XS.iconst X1.here hx rfl (hb hby d2_72) k) ?_
  subst hΦ
  exact own_retN X1 hx (t := .boolean) Bd.returns (by simp) hlk (hb hby d2_73) e1 ⟨rfl, N1, rfl⟩ (by decide) (by decide)
set_option maxRecDepth 65536 in
set_option maxHeartbeats 40000000 in
theorem rm_adm3 (l : Launch) (Z : State) (a0 : Array Value) (hw : ∀ d ∈ tables_1, d.before a0 Z = true) (a1 : Addr) (a2 : Addr) (w1 : Addr) (w2 : Addr) (h0 : Heap) (n0 : Nat) (H1 : Exa Z h0 a1 "com/example/glossyn/glossyn/query/OperatorKind") (H2 : Fld Z h0 a1 "java/lang/Enum" "ordinal" "I" (.int (3 : Int32))) (H3 : Old Z n0 h0) (H4 : Sta Z Z.heap "com/example/glossyn/glossyn/query/OperatorKind" "SYN" "Lcom/example/glossyn/glossyn/query/OperatorKind;" (.ref w1)) (H5 : Sta Z Z.heap "com/example/glossyn/glossyn/query/OperatorKind" "UW" "Lcom/example/glossyn/glossyn/query/OperatorKind;" (.ref w2)) :
    own_Met l Z (⟨"com/example/glossyn/glossyn/query/OperatorKind", "admits", "(Lcom/example/glossyn/glossyn/query/OperatorKind;)Z"⟩ : MethodName) prog_26_method_7_code 2 (some .boolean) ({ frames := 1, cells := 0, slots := 0, locals := 12 } : Room) #[(.ref a1), (.ref a2)] h0 (fun v h L => v = some (.int (own_in a2 w1 w2)) ∧ Fr n0 L ∧ h = h0) := by
  intro ws
  refine MetFree.of_bodySF (plainFor_of_name pn_c1) hisR ?_
  intro p e s m args below meth c s₁ Bd hml0 hP hK
  obtain ⟨rfl, hZ, hh⟩ := hP
  have hx := Bd.exec
  have hby := Bd.bytes
  have hml : c.maxLocals = 2 := hml0
  have hown : s.vm.findClass "com/example/glossyn/glossyn/query/OperatorKind" = some m.cls := findClass_of_methodNamed Bd.named
  have hnm := (name_of_methodNamed Bd.named Bd.method).1
  have hlk : meth.locks = false := Bd.notSynchronized
  have X0 : Stand p l e ({ frames := 1, cells := 0, slots := 0, locals := 12 } : Room) s m #[(.ref a1), (.ref a2)] below meth c s₁ [] 0 0 := Stand.of_body Bd
  have e0 : s₁.heap = h0 := by rw [← hh, Bd.state]; rfl
  have N0 := Fr.nil n0
  refine own_body (Q := fun v h L => v = some (.int (own_in a2 w1 w2)) ∧ Fr n0 L ∧ h = h0) ?_
  generalize hΦ : own_Fin s below _ _ _ = Φ
  refine own_cast (ef_2_RR m a1 a2) ?_
  show own_Run p e below Φ (s₁.setTop (mkF m 0 #[.val (.ref a1), .val (.ref a2)] []))
  refine own_go (fun t k => XS.aloadN X0.here hx rfl (hb hby d2_0) rfl rfl  k) ?_
  refine own_callU X0 hx hZ (y := (⟨"com/example/glossyn/glossyn/query/OperatorKind", "ordinal", "()I"⟩ : MethodName)) (z := (⟨"java/lang/Enum", "ordinal", "()I"⟩ : MethodName)) (W := 0) (a := a1) (argsL := []) (rest := []) hown (hw _ (List.mem_of_getElem? (i := 14) rfl)) (hw _ (List.mem_of_getElem? (i := 15) rfl)) (hw _ (List.mem_of_getElem? (i := 16) rfl)) (hw _ (List.mem_of_getElem? (i := 18) rfl)) (hw _ (List.mem_of_getElem? (i := 17) rfl)) (by decide) (own_bk (rm_ord l Z a0 hw a1 (3 : Int32) h0 n0 H2) hZ (hw _ (List.mem_of_getElem? (i := 20) rfl)) (hw _ (List.mem_of_getElem? (i := 19) rfl)) (by decide) (by decide)) e0 H1 (g := (mkF m 1 #[.val (.ref a1), .val (.ref a2)] [(.ref a1)])) rfl (by rw [hml]; rfl) (lenOf pd_2 rfl) rfl (by show 2 * 0 + _ ≤ _; exact Nat.le_of_eq rfl) (hb hby d2_1) (by decide) (by decide) (fun v1 T1 h1 L1 X1 e1 q1 => ?_)
  obtain ⟨rfl, M1, s1⟩ := q1
  replace e1 : T1.heap = h0 := e1.trans s1
  have N1 := Fr.app N0 M1
  refine own_go (fun t k => XS.tswIn X1.here hx rfl (pc0 := 4) (pc' := 50) (o := 46) rfl (hb hby d2_4) rfl (by decide) (by decide) (by decide) (by decide) k) ?_
  refine own_go (fun t k => XS.aloadN X1.here hx rfl (hb hby d2_50) rfl rfl  k) ?_
  obtain ⟨T2, X2, e2, st2⟩ := getS2 X1 hx hZ hown (host := "") (Or.inl (hw _ (List.mem_of_getElem? (i := 27) rfl))) Via.refl e1 (H4.ext H3.2) (g := (mkF m 51 #[.val (.ref a1), .val (.ref a2)] [(.ref a2)])) rfl (hb hby d2_51)
  refine own_go st2 ?_
  show own_Run p e below Φ (T2.setTop (mkF m 54 #[.val (.ref a1), .val (.ref a2)] [(.ref w1), (.ref a2)]))
  by_cases hc54 : a2 = w1
  · refine own_go (fun t k => Jvm.RoadKit.acmp (g := (mkF m 54 #[.val (.ref a1), .val (.ref a2)] [(.ref w1), (.ref a2)])) X2 hx rfl rfl rfl (pc0 := 54) (pc' := 64) (same := true) rfl (hb hby d2_54) rfl (decide_eq_true (congrArg Value.ref hc54)) (by decide) (by decide) k) ?_
    refine own_go (fun t k => XS.iconst X2.here hx rfl (hb hby d2_64) k) ?_
    refine own_go (fun t k => XS.goto X2.here hx rfl (pc0 := 65) (pc' := 73) rfl (hb hby d2_65) (by decide) (by decide) k) ?_
    subst hΦ
    exact own_retN X2 hx (t := .boolean) Bd.returns (by simp) hlk (hb hby d2_73) e2 ⟨(by unfold own_in; rw [if_pos hc54]; rfl), N1, rfl⟩ (by decide) (by decide)
  · refine own_go (fun t k => Jvm.RoadKit.acmp (g := (mkF m 54 #[.val (.ref a1), .val (.ref a2)] [(.ref w1), (.ref a2)])) X2 hx rfl rfl rfl (pc0 := 54) (pc' := 57) (same := false) rfl (hb hby d2_54) rfl (decide_eq_false fun q => hc54 (Value.ref.inj q)) (by decide) (by decide) k) ?_
    refine own_go (fun t k => XS.aloadN X2.here hx rfl (hb hby d2_57) rfl rfl  k) ?_
    show own_Run p e below Φ (T2.setTop (mkF m 58 #[.val (.ref a1), .val (.ref a2)] [(.ref a2)]))
    obtain ⟨T3, X3, e3, st3⟩ := getS2 X2 hx hZ hown (host := "") (Or.inl (hw _ (List.mem_of_getElem? (i := 28) rfl))) Via.refl e2 (H5.ext H3.2) (g := (mkF m 58 #[.val (.ref a1), .val (.ref a2)] [(.ref a2)])) rfl (hb hby d2_58)
    refine own_go st3 ?_
    by_cases hc61 : a2 = w2
    · refine own_go (fun t k => Jvm.RoadKit.acmp (g := (mkF m 61 #[.val (.ref a1), .val (.ref a2)] [(.ref w2), (.ref a2)])) X3 hx rfl rfl rfl (pc0 := 61) (pc' := 64) (same := true) rfl (hb hby d2_61) rfl (decide_eq_true (congrArg Value.ref hc61)) (by decide) (by decide) k) ?_
      refine own_go (fun t k => XS.iconst X3.here hx rfl (hb hby d2_64) k) ?_
      refine own_go (fun t k => XS.goto X3.here hx rfl (pc0 := 65) (pc' := 73) rfl (hb hby d2_65) (by decide) (by decide) k) ?_
      subst hΦ
      exact own_retN X3 hx (t := .boolean) Bd.returns (by simp) hlk (hb hby d2_73) e3 ⟨(by unfold own_in; rw [if_neg hc54, if_pos hc61]; rfl), N1, rfl⟩ (by decide) (by decide)
    · refine own_go (fun t k => Jvm.RoadKit.acmp (g := (mkF m 61 #[.val (.ref a1), .val (.ref a2)] [(.ref w2), (.ref a2)])) X3 hx rfl rfl rfl (pc0 := 61) (pc' := 68) (same := false) rfl (hb hby d2_61) rfl (decide_eq_false fun q => hc61 (Value.ref.inj q)) (by decide) (by decide) k) ?_
      show own_Run p e below Φ (T3.setTop (mkF m 68 #[.val (.ref a1), .val (.ref a2)] []))
      refine own_go (fun t k => XS.iconst X3.here hx rfl (hb hby d2_68) k) ?_
      refine own_go (fun t k => XS.goto X3.here hx rfl (pc0 := 69) (pc' := 73) rfl (hb hby d2_69) (by decide) (by decide) k) ?_
      subst hΦ
      exact own_retN X3 hx (t := .boolean) Bd.returns (by simp) hlk (hb hby d2_73) e3 ⟨(by unfold own_in; rw [if_neg hc54, if_neg hc61]; rfl), N1, rfl⟩ (by decide) (by decide)
theorem pd_0 : parseMethodDescriptor "(I)Lcom/example/glossyn/glossyn/query/OperatorKind;" = some ⟨[.int], some (.object "com/example/glossyn/glossyn/query/OperatorKind")⟩ := by decide +kernel
theorem pd_1 : parseMethodDescriptor "(Lcom/example/glossyn/glossyn/query/OperatorKind;)Z" = some ⟨[(.object "com/example/glossyn/glossyn/query/OperatorKind")], some .boolean⟩ := by decide +kernel
theorem ef_0_II (m : MethodId) (x0 : Int32) (x1 : Int32) : entryFrame m #[(.int x0), (.int x1)] maxLocals = mkF m 0 #[.val (.int x0), .val (.int x1), .unset, .unset, .unset, .unset, .unset] [] := by first | (simp [entryFrame, mkF, argsToLocals, Value.category, maxLocals]; done) | rfl
set_option maxRecDepth 65536 in
set_option maxHeartbeats 40000000 in
theorem rm_law (l : Launch) (Z : State) (a0 : Array Value) (hw : ∀ d ∈ tables_1, d.before a0 Z = true) (p1 : Int32) (p2 : Int32) (w0 : Addr) (w1 : Addr) (w2 : Addr) (w3 : Addr) (h0 : Heap) (n0 : Nat) (O0 : Old Z n0 h0) (S0 : Sta Z Z.heap "com/example/glossyn/glossyn/query/OperatorKind" "SUM" "Lcom/example/glossyn/glossyn/query/OperatorKind;" (.ref w0)) (A0 : Exa Z h0 w0 "com/example/glossyn/glossyn/query/OperatorKind") (B0 : Fld Z h0 w0 "java/lang/Enum" "ordinal" "I" (.int (0 : Int32))) (S1 : Sta Z Z.heap "com/example/glossyn/glossyn/query/OperatorKind" "SYN" "Lcom/example/glossyn/glossyn/query/OperatorKind;" (.ref w1)) (A1 : Exa Z h0 w1 "com/example/glossyn/glossyn/query/OperatorKind") (B1 : Fld Z h0 w1 "java/lang/Enum" "ordinal" "I" (.int (1 : Int32))) (S2 : Sta Z Z.heap "com/example/glossyn/glossyn/query/OperatorKind" "UW" "Lcom/example/glossyn/glossyn/query/OperatorKind;" (.ref w2)) (A2 : Exa Z h0 w2 "com/example/glossyn/glossyn/query/OperatorKind") (B2 : Fld Z h0 w2 "java/lang/Enum" "ordinal" "I" (.int (2 : Int32))) (S3 : Sta Z Z.heap "com/example/glossyn/glossyn/query/OperatorKind" "BAND" "Lcom/example/glossyn/glossyn/query/OperatorKind;" (.ref w3)) (A3 : Exa Z h0 w3 "com/example/glossyn/glossyn/query/OperatorKind") (B3 : Fld Z h0 w3 "java/lang/Enum" "ordinal" "I" (.int (3 : Int32))) :
    own_Met l Z x code maxLocals ret room_1 #[(.int p1), (.int p2)] h0 (fun v h L => v = some (.int 1) ∧ Fr n0 L) := by
  intro ws
  refine MetFree.of_bodySF (plainFor_of_name pn_c0) hisR ?_
  intro p e s m args below meth c s₁ Bd hml0 hP hK
  obtain ⟨rfl, hZ, hh⟩ := hP
  have hx := Bd.exec
  have hby := Bd.bytes
  have hml : c.maxLocals = 7 := hml0
  have hown : s.vm.findClass "com/example/glossyn/glossyn/query/OperatorKindAdmitsPinLaw" = some m.cls := findClass_of_methodNamed Bd.named
  have hnm := (name_of_methodNamed Bd.named Bd.method).1
  have hlk : meth.locks = false := Bd.notSynchronized
  have X0 : Stand p l e room_1 s m #[(.int p1), (.int p2)] below meth c s₁ [] 0 0 := Stand.of_body Bd
  have e0 : s₁.heap = h0 := by rw [← hh, Bd.state]; rfl
  have N0 := Fr.nil n0
  refine own_body (Q := fun v h L => v = some (.int 1) ∧ Fr n0 L) ?_
  generalize hΦ : own_Fin s below _ _ _ = Φ
  refine own_cast (ef_0_II m p1 p2) ?_
  have ne01 : w0 ≠ w1 := Fld.ne B0 B1 (own_vne (by decide))
  have ne02 : w0 ≠ w2 := Fld.ne B0 B2 (own_vne (by decide))
  have ne03 : w0 ≠ w3 := Fld.ne B0 B3 (own_vne (by decide))
  have ne12 : w1 ≠ w2 := Fld.ne B1 B2 (own_vne (by decide))
  have ne13 : w1 ≠ w3 := Fld.ne B1 B3 (own_vne (by decide))
  have ne23 : w2 ≠ w3 := Fld.ne B2 B3 (own_vne (by decide))
  show own_Run p e below Φ (s₁.setTop (mkF m 0 #[.val (.int p1), .val (.int p2), .unset, .unset, .unset, .unset, .unset] []))
  refine own_go (fun t k => XS.iloadN X0.here hx rfl (hb hby at_0) rfl  k) ?_
  refine own_go (fun t k => XS.iconst X0.here hx rfl (hb hby at_1) k) ?_
  refine own_go (fun t k => XS.iand X0.here hx rfl (hb hby at_2) rfl k) ?_
  refine own_go (fun t k => XS.istoreN X0.here hx rfl (hb hby at_3) rfl (l' := #[.val (.int p1), .val (.int p2), .val (.int (p1 &&& (3 : Int32))), .unset, .unset, .unset, .unset]) rfl k) ?_
  refine own_go (fun t k => XS.iloadN X0.here hx rfl (hb hby at_4) rfl  k) ?_
  show own_Run p e below Φ (s₁.setTop (mkF m 5 #[.val (.int p1), .val (.int p2), .val (.int (p1 &&& (3 : Int32))), .unset, .unset, .unset, .unset] [(.int p2)]))
  refine own_go (fun t k => XS.iconst X0.here hx rfl (hb hby at_5) k) ?_
  refine own_go (fun t k => XS.iand X0.here hx rfl (hb hby at_6) rfl k) ?_
  refine own_go (fun t k => XS.istoreN X0.here hx rfl (hb hby at_7) rfl (l' := #[.val (.int p1), .val (.int p2), .val (.int (p1 &&& (3 : Int32))), .val (.int (p2 &&& (3 : Int32))), .unset, .unset, .unset]) rfl k) ?_
  show own_Run p e below Φ (s₁.setTop (mkF m 8 #[.val (.int p1), .val (.int p2), .val (.int (p1 &&& (3 : Int32))), .val (.int (p2 &&& (3 : Int32))), .unset, .unset, .unset] []))
  rcases own_and3 p1 with e1 | e1 | e1 | e1 <;> rcases own_and3 p2 with e2 | e2 | e2 | e2
  · rw [e1, e2]
    show own_Run p e below Φ (s₁.setTop (mkF m 8 #[.val (.int p1), .val (.int p2), .val (.int (0 : Int32)), .val (.int (0 : Int32)), .unset, .unset, .unset] []))
    refine own_go (fun t k => XS.iloadN X0.here hx rfl (hb hby at_8) rfl  k) ?_
    refine own_callS X0 hx hZ (y := (⟨"com/example/glossyn/glossyn/query/OperatorKindAdmitsPinLaw", "pick", "(I)Lcom/example/glossyn/glossyn/query/OperatorKind;"⟩ : MethodName)) (W := 0) (argsL := [(.int (0 : Int32))]) (rest := []) hown (hw _ (List.mem_of_getElem? (i := 0) rfl)) (hw _ (List.mem_of_getElem? (i := 1) rfl)) (hw _ (List.mem_of_getElem? (i := 2) rfl)) (hw _ (List.mem_of_getElem? (i := 3) rfl)) (by decide) (own_bk (rm_pick l Z a0 hw (0 : Int32) w0 w1 w2 w3 h0 n0 O0 S0 S1 S2 S3) hZ (hw _ (List.mem_of_getElem? (i := 3) rfl)) (hw _ (List.mem_of_getElem? (i := 2) rfl)) (by decide) (by decide)) e0 (g := (mkF m 9 #[.val (.int p1), .val (.int p2), .val (.int (0 : Int32)), .val (.int (0 : Int32)), .unset, .unset, .unset] [(.int (0 : Int32))])) rfl (by rw [hml]; rfl) (lenOf pd_0 rfl) rfl (by show 2 * 0 + _ ≤ _; exact Nat.le_of_eq rfl) (hb hby at_9) (by decide) (by decide) (fun v1 T1 h1 L1 X1 e1 q1 => ?_)
    obtain ⟨rfl, M1, s1⟩ := q1
    replace e1 : T1.heap = h0 := e1.trans s1
    have N1 := Fr.app N0 M1
    refine own_go (fun t k => XS.astore X1.here hx rfl (hb hby at_12) rfl rfl (l' := #[.val (.int p1), .val (.int p2), .val (.int (0 : Int32)), .val (.int (0 : Int32)), .val (.ref w0), .unset, .unset]) rfl k) ?_
    refine own_go (fun t k => XS.iloadN X1.here hx rfl (hb hby at_14) rfl  k) ?_
    refine own_callS X1 hx hZ (y := (⟨"com/example/glossyn/glossyn/query/OperatorKindAdmitsPinLaw", "pick", "(I)Lcom/example/glossyn/glossyn/query/OperatorKind;"⟩ : MethodName)) (W := 0) (argsL := [(.int (0 : Int32))]) (rest := []) hown (hw _ (List.mem_of_getElem? (i := 0) rfl)) (hw _ (List.mem_of_getElem? (i := 1) rfl)) (hw _ (List.mem_of_getElem? (i := 2) rfl)) (hw _ (List.mem_of_getElem? (i := 3) rfl)) (by decide) (own_bk (rm_pick l Z a0 hw (0 : Int32) w0 w1 w2 w3 h0 n0 O0 S0 S1 S2 S3) hZ (hw _ (List.mem_of_getElem? (i := 3) rfl)) (hw _ (List.mem_of_getElem? (i := 2) rfl)) (by decide) (by decide)) e1 (g := (mkF m 15 #[.val (.int p1), .val (.int p2), .val (.int (0 : Int32)), .val (.int (0 : Int32)), .val (.ref w0), .unset, .unset] [(.int (0 : Int32))])) rfl (by rw [hml]; rfl) (lenOf pd_0 rfl) rfl (by show 2 * 0 + _ ≤ _; exact Nat.le_of_eq rfl) (hb hby at_15) (by decide) (by decide) (fun v2 T2 h2 L2 X2 e2 q2 => ?_)
    obtain ⟨rfl, M2, s2⟩ := q2
    replace e2 : T2.heap = h0 := e2.trans s2
    have N2 := Fr.app N1 M2
    show own_Run p e below Φ (T2.setTop (mkF m 18 #[.val (.int p1), .val (.int p2), .val (.int (0 : Int32)), .val (.int (0 : Int32)), .val (.ref w0), .unset, .unset] [(.ref w0)]))
    refine own_go (fun t k => XS.astore X2.here hx rfl (hb hby at_18) rfl rfl (l' := #[.val (.int p1), .val (.int p2), .val (.int (0 : Int32)), .val (.int (0 : Int32)), .val (.ref w0), .val (.ref w0), .unset]) rfl k) ?_
    refine own_go (fun t k => XS.iloadN X2.here hx rfl (hb hby at_20) rfl  k) ?_
    refine own_go (fun t k => XS.ifNo X2.here hx rfl (hb hby at_21) rfl ((if0 _ _).trans (teq (rfl : (0 : Int32) = (0 : Int32))).2) k) ?_
    refine own_go (fun t k => XS.iconst X2.here hx rfl (hb hby at_24) k) ?_
    refine own_go (fun t k => XS.istore X2.here hx rfl (hb hby at_25) rfl (l' := #[.val (.int p1), .val (.int p2), .val (.int (0 : Int32)), .val (.int (0 : Int32)), .val (.ref w0), .val (.ref w0), .val (.int (1 : Int32))]) rfl k) ?_
    show own_Run p e below Φ (T2.setTop (mkF m 27 #[.val (.int p1), .val (.int p2), .val (.int (0 : Int32)), .val (.int (0 : Int32)), .val (.ref w0), .val (.ref w0), .val (.int (1 : Int32))] []))
    refine own_go (fun t k => XS.goto X2.here hx rfl (pc0 := 27) (pc' := 58) rfl (hb hby at_27) (by decide) (by decide) k) ?_
    refine own_go (fun t k => XS.aload X2.here hx rfl (hb hby at_58) rfl rfl  k) ?_
    refine own_go (fun t k => XS.aload X2.here hx rfl (hb hby at_60) rfl rfl  k) ?_
    refine own_callV X2 hx hZ (y := (⟨"com/example/glossyn/glossyn/query/OperatorKind", "admits", "(Lcom/example/glossyn/glossyn/query/OperatorKind;)Z"⟩ : MethodName)) (z := (⟨"com/example/glossyn/glossyn/query/OperatorKind", "admits", "(Lcom/example/glossyn/glossyn/query/OperatorKind;)Z"⟩ : MethodName)) (W := 0) (a := w0) (argsL := [(.ref w0)]) (rest := []) hown (hw _ (List.mem_of_getElem? (i := 9) rfl)) (hw _ (List.mem_of_getElem? (i := 10) rfl)) (notFace_of_selects (args := #[]) (mvT hZ (hw _ (List.mem_of_getElem? (i := 12) rfl)))) (hw _ (List.mem_of_getElem? (i := 12) rfl)) (hw _ (List.mem_of_getElem? (i := 11) rfl)) (by decide) (own_bk (rm_adm0 l Z a0 hw w0 w0 w1 w2 h0 n0 A0 B0 O0 S1 S2) hZ (hw _ (List.mem_of_getElem? (i := 13) rfl)) (hw _ (List.mem_of_getElem? (i := 5) rfl)) (by decide) (by decide)) e2 A0 (g := (mkF m 62 #[.val (.int p1), .val (.int p2), .val (.int (0 : Int32)), .val (.int (0 : Int32)), .val (.ref w0), .val (.ref w0), .val (.int (1 : Int32))] [(.ref w0), (.ref w0)])) rfl (by rw [hml]; rfl) (lenOf pd_1 rfl) rfl (by show 2 * 0 + _ ≤ _; exact Nat.le_of_eq rfl) (hb hby at_62) (by decide) (by decide) (fun v3 T3 h3 L3 X3 e3 q3 => ?_)
    obtain ⟨rfl, M3, s3⟩ := q3
    replace e3 : T3.heap = h0 := e3.trans s3
    have N3 := Fr.app N2 M3
    show own_Run p e below Φ (T3.setTop (mkF m 65 #[.val (.int p1), .val (.int p2), .val (.int (0 : Int32)), .val (.int (0 : Int32)), .val (.ref w0), .val (.ref w0), .val (.int (1 : Int32))] [(.int (1 : Int32))]))
    refine own_go (fun t k => XS.iload X3.here hx rfl (hb hby at_65) rfl  k) ?_
    refine own_go (fun t k => XS.icmpNo X3.here hx rfl (hb hby at_67) rfl (teq (rfl : (1 : Int32) = (1 : Int32))).2 k) ?_
    refine own_go (fun t k => XS.iconst X3.here hx rfl (hb hby at_70) k) ?_
    refine own_go (fun t k => XS.goto X3.here hx rfl (pc0 := 71) (pc' := 75) rfl (hb hby at_71) (by decide) (by decide) k) ?_
    subst hΦ
    exact own_retN X3 hx (t := .boolean) Bd.returns (by simp) hlk (hb hby at_75) e3 ⟨rfl, N3⟩ (by decide) (by decide)
  · rw [e1, e2]
    show own_Run p e below Φ (s₁.setTop (mkF m 8 #[.val (.int p1), .val (.int p2), .val (.int (0 : Int32)), .val (.int (1 : Int32)), .unset, .unset, .unset] []))
    refine own_go (fun t k => XS.iloadN X0.here hx rfl (hb hby at_8) rfl  k) ?_
    show own_Run p e below Φ (s₁.setTop (mkF m 9 #[.val (.int p1), .val (.int p2), .val (.int (0 : Int32)), .val (.int (1 : Int32)), .unset, .unset, .unset] [(.int (0 : Int32))]))
    refine own_callS X0 hx hZ (y := (⟨"com/example/glossyn/glossyn/query/OperatorKindAdmitsPinLaw", "pick", "(I)Lcom/example/glossyn/glossyn/query/OperatorKind;"⟩ : MethodName)) (W := 0) (argsL := [(.int (0 : Int32))]) (rest := []) hown (hw _ (List.mem_of_getElem? (i := 0) rfl)) (hw _ (List.mem_of_getElem? (i := 1) rfl)) (hw _ (List.mem_of_getElem? (i := 2) rfl)) (hw _ (List.mem_of_getElem? (i := 3) rfl)) (by decide) (own_bk (rm_pick l Z a0 hw (0 : Int32) w0 w1 w2 w3 h0 n0 O0 S0 S1 S2 S3) hZ (hw _ (List.mem_of_getElem? (i := 3) rfl)) (hw _ (List.mem_of_getElem? (i := 2) rfl)) (by decide) (by decide)) e0 (g := (mkF m 9 #[.val (.int p1), .val (.int p2), .val (.int (0 : Int32)), .val (.int (1 : Int32)), .unset, .unset, .unset] [(.int (0 : Int32))])) rfl (by rw [hml]; rfl) (lenOf pd_0 rfl) rfl (by show 2 * 0 + _ ≤ _; exact Nat.le_of_eq rfl) (hb hby at_9) (by decide) (by decide) (fun v4 T4 h4 L4 X4 e4 q4 => ?_)
    obtain ⟨rfl, M4, s4⟩ := q4
    replace e4 : T4.heap = h0 := e4.trans s4
    have N4 := Fr.app N0 M4
    refine own_go (fun t k => XS.astore X4.here hx rfl (hb hby at_12) rfl rfl (l' := #[.val (.int p1), .val (.int p2), .val (.int (0 : Int32)), .val (.int (1 : Int32)), .val (.ref w0), .unset, .unset]) rfl k) ?_
    refine own_go (fun t k => XS.iloadN X4.here hx rfl (hb hby at_14) rfl  k) ?_
    refine own_callS X4 hx hZ (y := (⟨"com/example/glossyn/glossyn/query/OperatorKindAdmitsPinLaw", "pick", "(I)Lcom/example/glossyn/glossyn/query/OperatorKind;"⟩ : MethodName)) (W := 0) (argsL := [(.int (1 : Int32))]) (rest := []) hown (hw _ (List.mem_of_getElem? (i := 0) rfl)) (hw _ (List.mem_of_getElem? (i := 1) rfl)) (hw _ (List.mem_of_getElem? (i := 2) rfl)) (hw _ (List.mem_of_getElem? (i := 3) rfl)) (by decide) (own_bk (rm_pick l Z a0 hw (1 : Int32) w0 w1 w2 w3 h0 n0 O0 S0 S1 S2 S3) hZ (hw _ (List.mem_of_getElem? (i := 3) rfl)) (hw _ (List.mem_of_getElem? (i := 2) rfl)) (by decide) (by decide)) e4 (g := (mkF m 15 #[.val (.int p1), .val (.int p2), .val (.int (0 : Int32)), .val (.int (1 : Int32)), .val (.ref w0), .unset, .unset] [(.int (1 : Int32))])) rfl (by rw [hml]; rfl) (lenOf pd_0 rfl) rfl (by show 2 * 0 + _ ≤ _; exact Nat.le_of_eq rfl) (hb hby at_15) (by decide) (by decide) (fun v5 T5 h5 L5 X5 e5 q5 => ?_)
    obtain ⟨rfl, M5, s5⟩ := q5
    replace e5 : T5.heap = h0 := e5.trans s5
    have N5 := Fr.app N4 M5
    refine own_go (fun t k => XS.astore X5.here hx rfl (hb hby at_18) rfl rfl (l' := #[.val (.int p1), .val (.int p2), .val (.int (0 : Int32)), .val (.int (1 : Int32)), .val (.ref w0), .val (.ref w1), .unset]) rfl k) ?_
    show own_Run p e below Φ (T5.setTop (mkF m 20 #[.val (.int p1), .val (.int p2), .val (.int (0 : Int32)), .val (.int (1 : Int32)), .val (.ref w0), .val (.ref w1), .unset] []))
    refine own_go (fun t k => XS.iloadN X5.here hx rfl (hb hby at_20) rfl  k) ?_
    refine own_go (fun t k => XS.ifNo X5.here hx rfl (hb hby at_21) rfl ((if0 _ _).trans (teq (rfl : (0 : Int32) = (0 : Int32))).2) k) ?_
    refine own_go (fun t k => XS.iconst X5.here hx rfl (hb hby at_24) k) ?_
    refine own_go (fun t k => XS.istore X5.here hx rfl (hb hby at_25) rfl (l' := #[.val (.int p1), .val (.int p2), .val (.int (0 : Int32)), .val (.int (1 : Int32)), .val (.ref w0), .val (.ref w1), .val (.int (1 : Int32))]) rfl k) ?_
    refine own_go (fun t k => XS.goto X5.here hx rfl (pc0 := 27) (pc' := 58) rfl (hb hby at_27) (by decide) (by decide) k) ?_
    show own_Run p e below Φ (T5.setTop (mkF m 58 #[.val (.int p1), .val (.int p2), .val (.int (0 : Int32)), .val (.int (1 : Int32)), .val (.ref w0), .val (.ref w1), .val (.int (1 : Int32))] []))
    refine own_go (fun t k => XS.aload X5.here hx rfl (hb hby at_58) rfl rfl  k) ?_
    refine own_go (fun t k => XS.aload X5.here hx rfl (hb hby at_60) rfl rfl  k) ?_
    refine own_callV X5 hx hZ (y := (⟨"com/example/glossyn/glossyn/query/OperatorKind", "admits", "(Lcom/example/glossyn/glossyn/query/OperatorKind;)Z"⟩ : MethodName)) (z := (⟨"com/example/glossyn/glossyn/query/OperatorKind", "admits", "(Lcom/example/glossyn/glossyn/query/OperatorKind;)Z"⟩ : MethodName)) (W := 0) (a := w0) (argsL := [(.ref w1)]) (rest := []) hown (hw _ (List.mem_of_getElem? (i := 9) rfl)) (hw _ (List.mem_of_getElem? (i := 10) rfl)) (notFace_of_selects (args := #[]) (mvT hZ (hw _ (List.mem_of_getElem? (i := 12) rfl)))) (hw _ (List.mem_of_getElem? (i := 12) rfl)) (hw _ (List.mem_of_getElem? (i := 11) rfl)) (by decide) (own_bk (rm_adm0 l Z a0 hw w0 w1 w1 w2 h0 n0 A0 B0 O0 S1 S2) hZ (hw _ (List.mem_of_getElem? (i := 13) rfl)) (hw _ (List.mem_of_getElem? (i := 5) rfl)) (by decide) (by decide)) e5 A0 (g := (mkF m 62 #[.val (.int p1), .val (.int p2), .val (.int (0 : Int32)), .val (.int (1 : Int32)), .val (.ref w0), .val (.ref w1), .val (.int (1 : Int32))] [(.ref w1), (.ref w0)])) rfl (by rw [hml]; rfl) (lenOf pd_1 rfl) rfl (by show 2 * 0 + _ ≤ _; exact Nat.le_of_eq rfl) (hb hby at_62) (by decide) (by decide) (fun v6 T6 h6 L6 X6 e6 q6 => ?_)
    obtain ⟨rfl, M6, s6⟩ := q6
    replace e6 : T6.heap = h0 := e6.trans s6
    have N6 := Fr.app N5 M6
    show own_Run p e below Φ (T6.setTop (mkF m 65 #[.val (.int p1), .val (.int p2), .val (.int (0 : Int32)), .val (.int (1 : Int32)), .val (.ref w0), .val (.ref w1), .val (.int (1 : Int32))] [(.int (1 : Int32))]))
    refine own_go (fun t k => XS.iload X6.here hx rfl (hb hby at_65) rfl  k) ?_
    refine own_go (fun t k => XS.icmpNo X6.here hx rfl (hb hby at_67) rfl (teq (rfl : (1 : Int32) = (1 : Int32))).2 k) ?_
    refine own_go (fun t k => XS.iconst X6.here hx rfl (hb hby at_70) k) ?_
    refine own_go (fun t k => XS.goto X6.here hx rfl (pc0 := 71) (pc' := 75) rfl (hb hby at_71) (by decide) (by decide) k) ?_
    subst hΦ
    exact own_retN X6 hx (t := .boolean) Bd.returns (by simp) hlk (hb hby at_75) e6 ⟨rfl, N6⟩ (by decide) (by decide)
  · rw [e1, e2]
    show own_Run p e below Φ (s₁.setTop (mkF m 8 #[.val (.int p1), .val (.int p2), .val (.int (0 : Int32)), .val (.int (2 : Int32)), .unset, .unset, .unset] []))
    refine own_go (fun t k => XS.iloadN X0.here hx rfl (hb hby at_8) rfl  k) ?_
    show own_Run p e below Φ (s₁.setTop (mkF m 9 #[.val (.int p1), .val (.int p2), .val (.int (0 : Int32)), .val (.int (2 : Int32)), .unset, .unset, .unset] [(.int (0 : Int32))]))
    refine own_callS X0 hx hZ (y := (⟨"com/example/glossyn/glossyn/query/OperatorKindAdmitsPinLaw", "pick", "(I)Lcom/example/glossyn/glossyn/query/OperatorKind;"⟩ : MethodName)) (W := 0) (argsL := [(.int (0 : Int32))]) (rest := []) hown (hw _ (List.mem_of_getElem? (i := 0) rfl)) (hw _ (List.mem_of_getElem? (i := 1) rfl)) (hw _ (List.mem_of_getElem? (i := 2) rfl)) (hw _ (List.mem_of_getElem? (i := 3) rfl)) (by decide) (own_bk (rm_pick l Z a0 hw (0 : Int32) w0 w1 w2 w3 h0 n0 O0 S0 S1 S2 S3) hZ (hw _ (List.mem_of_getElem? (i := 3) rfl)) (hw _ (List.mem_of_getElem? (i := 2) rfl)) (by decide) (by decide)) e0 (g := (mkF m 9 #[.val (.int p1), .val (.int p2), .val (.int (0 : Int32)), .val (.int (2 : Int32)), .unset, .unset, .unset] [(.int (0 : Int32))])) rfl (by rw [hml]; rfl) (lenOf pd_0 rfl) rfl (by show 2 * 0 + _ ≤ _; exact Nat.le_of_eq rfl) (hb hby at_9) (by decide) (by decide) (fun v7 T7 h7 L7 X7 e7 q7 => ?_)
    obtain ⟨rfl, M7, s7⟩ := q7
    replace e7 : T7.heap = h0 := e7.trans s7
    have N7 := Fr.app N0 M7
    refine own_go (fun t k => XS.astore X7.here hx rfl (hb hby at_12) rfl rfl (l' := #[.val (.int p1), .val (.int p2), .val (.int (0 : Int32)), .val (.int (2 : Int32)), .val (.ref w0), .unset, .unset]) rfl k) ?_
    refine own_go (fun t k => XS.iloadN X7.here hx rfl (hb hby at_14) rfl  k) ?_
    refine own_callS X7 hx hZ (y := (⟨"com/example/glossyn/glossyn/query/OperatorKindAdmitsPinLaw", "pick", "(I)Lcom/example/glossyn/glossyn/query/OperatorKind;"⟩ : MethodName)) (W := 0) (argsL := [(.int (2 : Int32))]) (rest := []) hown (hw _ (List.mem_of_getElem? (i := 0) rfl)) (hw _ (List.mem_of_getElem? (i := 1) rfl)) (hw _ (List.mem_of_getElem? (i := 2) rfl)) (hw _ (List.mem_of_getElem? (i := 3) rfl)) (by decide) (own_bk (rm_pick l Z a0 hw (2 : Int32) w0 w1 w2 w3 h0 n0 O0 S0 S1 S2 S3) hZ (hw _ (List.mem_of_getElem? (i := 3) rfl)) (hw _ (List.mem_of_getElem? (i := 2) rfl)) (by decide) (by decide)) e7 (g := (mkF m 15 #[.val (.int p1), .val (.int p2), .val (.int (0 : Int32)), .val (.int (2 : Int32)), .val (.ref w0), .unset, .unset] [(.int (2 : Int32))])) rfl (by rw [hml]; rfl) (lenOf pd_0 rfl) rfl (by show 2 * 0 + _ ≤ _; exact Nat.le_of_eq rfl) (hb hby at_15) (by decide) (by decide) (fun v8 T8 h8 L8 X8 e8 q8 => ?_)
    obtain ⟨rfl, M8, s8⟩ := q8
    replace e8 : T8.heap = h0 := e8.trans s8
    have N8 := Fr.app N7 M8
    refine own_go (fun t k => XS.astore X8.here hx rfl (hb hby at_18) rfl rfl (l' := #[.val (.int p1), .val (.int p2), .val (.int (0 : Int32)), .val (.int (2 : Int32)), .val (.ref w0), .val (.ref w2), .unset]) rfl k) ?_
    show own_Run p e below Φ (T8.setTop (mkF m 20 #[.val (.int p1), .val (.int p2), .val (.int (0 : Int32)), .val (.int (2 : Int32)), .val (.ref w0), .val (.ref w2), .unset] []))
    refine own_go (fun t k => XS.iloadN X8.here hx rfl (hb hby at_20) rfl  k) ?_
    refine own_go (fun t k => XS.ifNo X8.here hx rfl (hb hby at_21) rfl ((if0 _ _).trans (teq (rfl : (0 : Int32) = (0 : Int32))).2) k) ?_
    refine own_go (fun t k => XS.iconst X8.here hx rfl (hb hby at_24) k) ?_
    refine own_go (fun t k => XS.istore X8.here hx rfl (hb hby at_25) rfl (l' := #[.val (.int p1), .val (.int p2), .val (.int (0 : Int32)), .val (.int (2 : Int32)), .val (.ref w0), .val (.ref w2), .val (.int (1 : Int32))]) rfl k) ?_
    refine own_go (fun t k => XS.goto X8.here hx rfl (pc0 := 27) (pc' := 58) rfl (hb hby at_27) (by decide) (by decide) k) ?_
    show own_Run p e below Φ (T8.setTop (mkF m 58 #[.val (.int p1), .val (.int p2), .val (.int (0 : Int32)), .val (.int (2 : Int32)), .val (.ref w0), .val (.ref w2), .val (.int (1 : Int32))] []))
    refine own_go (fun t k => XS.aload X8.here hx rfl (hb hby at_58) rfl rfl  k) ?_
    refine own_go (fun t k => XS.aload X8.here hx rfl (hb hby at_60) rfl rfl  k) ?_
    refine own_callV X8 hx hZ (y := (⟨"com/example/glossyn/glossyn/query/OperatorKind", "admits", "(Lcom/example/glossyn/glossyn/query/OperatorKind;)Z"⟩ : MethodName)) (z := (⟨"com/example/glossyn/glossyn/query/OperatorKind", "admits", "(Lcom/example/glossyn/glossyn/query/OperatorKind;)Z"⟩ : MethodName)) (W := 0) (a := w0) (argsL := [(.ref w2)]) (rest := []) hown (hw _ (List.mem_of_getElem? (i := 9) rfl)) (hw _ (List.mem_of_getElem? (i := 10) rfl)) (notFace_of_selects (args := #[]) (mvT hZ (hw _ (List.mem_of_getElem? (i := 12) rfl)))) (hw _ (List.mem_of_getElem? (i := 12) rfl)) (hw _ (List.mem_of_getElem? (i := 11) rfl)) (by decide) (own_bk (rm_adm0 l Z a0 hw w0 w2 w1 w2 h0 n0 A0 B0 O0 S1 S2) hZ (hw _ (List.mem_of_getElem? (i := 13) rfl)) (hw _ (List.mem_of_getElem? (i := 5) rfl)) (by decide) (by decide)) e8 A0 (g := (mkF m 62 #[.val (.int p1), .val (.int p2), .val (.int (0 : Int32)), .val (.int (2 : Int32)), .val (.ref w0), .val (.ref w2), .val (.int (1 : Int32))] [(.ref w2), (.ref w0)])) rfl (by rw [hml]; rfl) (lenOf pd_1 rfl) rfl (by show 2 * 0 + _ ≤ _; exact Nat.le_of_eq rfl) (hb hby at_62) (by decide) (by decide) (fun v9 T9 h9 L9 X9 e9 q9 => ?_)
    obtain ⟨rfl, M9, s9⟩ := q9
    replace e9 : T9.heap = h0 := e9.trans s9
    have N9 := Fr.app N8 M9
    show own_Run p e below Φ (T9.setTop (mkF m 65 #[.val (.int p1), .val (.int p2), .val (.int (0 : Int32)), .val (.int (2 : Int32)), .val (.ref w0), .val (.ref w2), .val (.int (1 : Int32))] [(.int (1 : Int32))]))
    refine own_go (fun t k => XS.iload X9.here hx rfl (hb hby at_65) rfl  k) ?_
    refine own_go (fun t k => XS.icmpNo X9.here hx rfl (hb hby at_67) rfl (teq (rfl : (1 : Int32) = (1 : Int32))).2 k) ?_
    refine own_go (fun t k => XS.iconst X9.here hx rfl (hb hby at_70) k) ?_
    refine own_go (fun t k => XS.goto X9.here hx rfl (pc0 := 71) (pc' := 75) rfl (hb hby at_71) (by decide) (by decide) k) ?_
    subst hΦ
    exact own_retN X9 hx (t := .boolean) Bd.returns (by simp) hlk (hb hby at_75) e9 ⟨rfl, N9⟩ (by decide) (by decide)
  · rw [e1, e2]
    show own_Run p e below Φ (s₁.setTop (mkF m 8 #[.val (.int p1), .val (.int p2), .val (.int (0 : Int32)), .val (.int (3 : Int32)), .unset, .unset, .unset] []))
    refine own_go (fun t k => XS.iloadN X0.here hx rfl (hb hby at_8) rfl  k) ?_
    show own_Run p e below Φ (s₁.setTop (mkF m 9 #[.val (.int p1), .val (.int p2), .val (.int (0 : Int32)), .val (.int (3 : Int32)), .unset, .unset, .unset] [(.int (0 : Int32))]))
    refine own_callS X0 hx hZ (y := (⟨"com/example/glossyn/glossyn/query/OperatorKindAdmitsPinLaw", "pick", "(I)Lcom/example/glossyn/glossyn/query/OperatorKind;"⟩ : MethodName)) (W := 0) (argsL := [(.int (0 : Int32))]) (rest := []) hown (hw _ (List.mem_of_getElem? (i := 0) rfl)) (hw _ (List.mem_of_getElem? (i := 1) rfl)) (hw _ (List.mem_of_getElem? (i := 2) rfl)) (hw _ (List.mem_of_getElem? (i := 3) rfl)) (by decide) (own_bk (rm_pick l Z a0 hw (0 : Int32) w0 w1 w2 w3 h0 n0 O0 S0 S1 S2 S3) hZ (hw _ (List.mem_of_getElem? (i := 3) rfl)) (hw _ (List.mem_of_getElem? (i := 2) rfl)) (by decide) (by decide)) e0 (g := (mkF m 9 #[.val (.int p1), .val (.int p2), .val (.int (0 : Int32)), .val (.int (3 : Int32)), .unset, .unset, .unset] [(.int (0 : Int32))])) rfl (by rw [hml]; rfl) (lenOf pd_0 rfl) rfl (by show 2 * 0 + _ ≤ _; exact Nat.le_of_eq rfl) (hb hby at_9) (by decide) (by decide) (fun v10 T10 h10 L10 X10 e10 q10 => ?_)
    obtain ⟨rfl, M10, s10⟩ := q10
    replace e10 : T10.heap = h0 := e10.trans s10
    have N10 := Fr.app N0 M10
    refine own_go (fun t k => XS.astore X10.here hx rfl (hb hby at_12) rfl rfl (l' := #[.val (.int p1), .val (.int p2), .val (.int (0 : Int32)), .val (.int (3 : Int32)), .val (.ref w0), .unset, .unset]) rfl k) ?_
    refine own_go (fun t k => XS.iloadN X10.here hx rfl (hb hby at_14) rfl  k) ?_
    refine own_callS X10 hx hZ (y := (⟨"com/example/glossyn/glossyn/query/OperatorKindAdmitsPinLaw", "pick", "(I)Lcom/example/glossyn/glossyn/query/OperatorKind;"⟩ : MethodName)) (W := 0) (argsL := [(.int (3 : Int32))]) (rest := []) hown (hw _ (List.mem_of_getElem? (i := 0) rfl)) (hw _ (List.mem_of_getElem? (i := 1) rfl)) (hw _ (List.mem_of_getElem? (i := 2) rfl)) (hw _ (List.mem_of_getElem? (i := 3) rfl)) (by decide) (own_bk (rm_pick l Z a0 hw (3 : Int32) w0 w1 w2 w3 h0 n0 O0 S0 S1 S2 S3) hZ (hw _ (List.mem_of_getElem? (i := 3) rfl)) (hw _ (List.mem_of_getElem? (i := 2) rfl)) (by decide) (by decide)) e10 (g := (mkF m 15 #[.val (.int p1), .val (.int p2), .val (.int (0 : Int32)), .val (.int (3 : Int32)), .val (.ref w0), .unset, .unset] [(.int (3 : Int32))])) rfl (by rw [hml]; rfl) (lenOf pd_0 rfl) rfl (by show 2 * 0 + _ ≤ _; exact Nat.le_of_eq rfl) (hb hby at_15) (by decide) (by decide) (fun v11 T11 h11 L11 X11 e11 q11 => ?_)
    obtain ⟨rfl, M11, s11⟩ := q11
    replace e11 : T11.heap = h0 := e11.trans s11
    have N11 := Fr.app N10 M11
    refine own_go (fun t k => XS.astore X11.here hx rfl (hb hby at_18) rfl rfl (l' := #[.val (.int p1), .val (.int p2), .val (.int (0 : Int32)), .val (.int (3 : Int32)), .val (.ref w0), .val (.ref w3), .unset]) rfl k) ?_
    show own_Run p e below Φ (T11.setTop (mkF m 20 #[.val (.int p1), .val (.int p2), .val (.int (0 : Int32)), .val (.int (3 : Int32)), .val (.ref w0), .val (.ref w3), .unset] []))
    refine own_go (fun t k => XS.iloadN X11.here hx rfl (hb hby at_20) rfl  k) ?_
    refine own_go (fun t k => XS.ifNo X11.here hx rfl (hb hby at_21) rfl ((if0 _ _).trans (teq (rfl : (0 : Int32) = (0 : Int32))).2) k) ?_
    refine own_go (fun t k => XS.iconst X11.here hx rfl (hb hby at_24) k) ?_
    refine own_go (fun t k => XS.istore X11.here hx rfl (hb hby at_25) rfl (l' := #[.val (.int p1), .val (.int p2), .val (.int (0 : Int32)), .val (.int (3 : Int32)), .val (.ref w0), .val (.ref w3), .val (.int (1 : Int32))]) rfl k) ?_
    refine own_go (fun t k => XS.goto X11.here hx rfl (pc0 := 27) (pc' := 58) rfl (hb hby at_27) (by decide) (by decide) k) ?_
    show own_Run p e below Φ (T11.setTop (mkF m 58 #[.val (.int p1), .val (.int p2), .val (.int (0 : Int32)), .val (.int (3 : Int32)), .val (.ref w0), .val (.ref w3), .val (.int (1 : Int32))] []))
    refine own_go (fun t k => XS.aload X11.here hx rfl (hb hby at_58) rfl rfl  k) ?_
    refine own_go (fun t k => XS.aload X11.here hx rfl (hb hby at_60) rfl rfl  k) ?_
    refine own_callV X11 hx hZ (y := (⟨"com/example/glossyn/glossyn/query/OperatorKind", "admits", "(Lcom/example/glossyn/glossyn/query/OperatorKind;)Z"⟩ : MethodName)) (z := (⟨"com/example/glossyn/glossyn/query/OperatorKind", "admits", "(Lcom/example/glossyn/glossyn/query/OperatorKind;)Z"⟩ : MethodName)) (W := 0) (a := w0) (argsL := [(.ref w3)]) (rest := []) hown (hw _ (List.mem_of_getElem? (i := 9) rfl)) (hw _ (List.mem_of_getElem? (i := 10) rfl)) (notFace_of_selects (args := #[]) (mvT hZ (hw _ (List.mem_of_getElem? (i := 12) rfl)))) (hw _ (List.mem_of_getElem? (i := 12) rfl)) (hw _ (List.mem_of_getElem? (i := 11) rfl)) (by decide) (own_bk (rm_adm0 l Z a0 hw w0 w3 w1 w2 h0 n0 A0 B0 O0 S1 S2) hZ (hw _ (List.mem_of_getElem? (i := 13) rfl)) (hw _ (List.mem_of_getElem? (i := 5) rfl)) (by decide) (by decide)) e11 A0 (g := (mkF m 62 #[.val (.int p1), .val (.int p2), .val (.int (0 : Int32)), .val (.int (3 : Int32)), .val (.ref w0), .val (.ref w3), .val (.int (1 : Int32))] [(.ref w3), (.ref w0)])) rfl (by rw [hml]; rfl) (lenOf pd_1 rfl) rfl (by show 2 * 0 + _ ≤ _; exact Nat.le_of_eq rfl) (hb hby at_62) (by decide) (by decide) (fun v12 T12 h12 L12 X12 e12 q12 => ?_)
    obtain ⟨rfl, M12, s12⟩ := q12
    replace e12 : T12.heap = h0 := e12.trans s12
    have N12 := Fr.app N11 M12
    show own_Run p e below Φ (T12.setTop (mkF m 65 #[.val (.int p1), .val (.int p2), .val (.int (0 : Int32)), .val (.int (3 : Int32)), .val (.ref w0), .val (.ref w3), .val (.int (1 : Int32))] [(.int (1 : Int32))]))
    refine own_go (fun t k => XS.iload X12.here hx rfl (hb hby at_65) rfl  k) ?_
    refine own_go (fun t k => XS.icmpNo X12.here hx rfl (hb hby at_67) rfl (teq (rfl : (1 : Int32) = (1 : Int32))).2 k) ?_
    refine own_go (fun t k => XS.iconst X12.here hx rfl (hb hby at_70) k) ?_
    refine own_go (fun t k => XS.goto X12.here hx rfl (pc0 := 71) (pc' := 75) rfl (hb hby at_71) (by decide) (by decide) k) ?_
    subst hΦ
    exact own_retN X12 hx (t := .boolean) Bd.returns (by simp) hlk (hb hby at_75) e12 ⟨rfl, N12⟩ (by decide) (by decide)
  · rw [e1, e2]
    show own_Run p e below Φ (s₁.setTop (mkF m 8 #[.val (.int p1), .val (.int p2), .val (.int (1 : Int32)), .val (.int (0 : Int32)), .unset, .unset, .unset] []))
    refine own_go (fun t k => XS.iloadN X0.here hx rfl (hb hby at_8) rfl  k) ?_
    show own_Run p e below Φ (s₁.setTop (mkF m 9 #[.val (.int p1), .val (.int p2), .val (.int (1 : Int32)), .val (.int (0 : Int32)), .unset, .unset, .unset] [(.int (1 : Int32))]))
    refine own_callS X0 hx hZ (y := (⟨"com/example/glossyn/glossyn/query/OperatorKindAdmitsPinLaw", "pick", "(I)Lcom/example/glossyn/glossyn/query/OperatorKind;"⟩ : MethodName)) (W := 0) (argsL := [(.int (1 : Int32))]) (rest := []) hown (hw _ (List.mem_of_getElem? (i := 0) rfl)) (hw _ (List.mem_of_getElem? (i := 1) rfl)) (hw _ (List.mem_of_getElem? (i := 2) rfl)) (hw _ (List.mem_of_getElem? (i := 3) rfl)) (by decide) (own_bk (rm_pick l Z a0 hw (1 : Int32) w0 w1 w2 w3 h0 n0 O0 S0 S1 S2 S3) hZ (hw _ (List.mem_of_getElem? (i := 3) rfl)) (hw _ (List.mem_of_getElem? (i := 2) rfl)) (by decide) (by decide)) e0 (g := (mkF m 9 #[.val (.int p1), .val (.int p2), .val (.int (1 : Int32)), .val (.int (0 : Int32)), .unset, .unset, .unset] [(.int (1 : Int32))])) rfl (by rw [hml]; rfl) (lenOf pd_0 rfl) rfl (by show 2 * 0 + _ ≤ _; exact Nat.le_of_eq rfl) (hb hby at_9) (by decide) (by decide) (fun v13 T13 h13 L13 X13 e13 q13 => ?_)
    obtain ⟨rfl, M13, s13⟩ := q13
    replace e13 : T13.heap = h0 := e13.trans s13
    have N13 := Fr.app N0 M13
    refine own_go (fun t k => XS.astore X13.here hx rfl (hb hby at_12) rfl rfl (l' := #[.val (.int p1), .val (.int p2), .val (.int (1 : Int32)), .val (.int (0 : Int32)), .val (.ref w1), .unset, .unset]) rfl k) ?_
    refine own_go (fun t k => XS.iloadN X13.here hx rfl (hb hby at_14) rfl  k) ?_
    refine own_callS X13 hx hZ (y := (⟨"com/example/glossyn/glossyn/query/OperatorKindAdmitsPinLaw", "pick", "(I)Lcom/example/glossyn/glossyn/query/OperatorKind;"⟩ : MethodName)) (W := 0) (argsL := [(.int (0 : Int32))]) (rest := []) hown (hw _ (List.mem_of_getElem? (i := 0) rfl)) (hw _ (List.mem_of_getElem? (i := 1) rfl)) (hw _ (List.mem_of_getElem? (i := 2) rfl)) (hw _ (List.mem_of_getElem? (i := 3) rfl)) (by decide) (own_bk (rm_pick l Z a0 hw (0 : Int32) w0 w1 w2 w3 h0 n0 O0 S0 S1 S2 S3) hZ (hw _ (List.mem_of_getElem? (i := 3) rfl)) (hw _ (List.mem_of_getElem? (i := 2) rfl)) (by decide) (by decide)) e13 (g := (mkF m 15 #[.val (.int p1), .val (.int p2), .val (.int (1 : Int32)), .val (.int (0 : Int32)), .val (.ref w1), .unset, .unset] [(.int (0 : Int32))])) rfl (by rw [hml]; rfl) (lenOf pd_0 rfl) rfl (by show 2 * 0 + _ ≤ _; exact Nat.le_of_eq rfl) (hb hby at_15) (by decide) (by decide) (fun v14 T14 h14 L14 X14 e14 q14 => ?_)
    obtain ⟨rfl, M14, s14⟩ := q14
    replace e14 : T14.heap = h0 := e14.trans s14
    have N14 := Fr.app N13 M14
    refine own_go (fun t k => XS.astore X14.here hx rfl (hb hby at_18) rfl rfl (l' := #[.val (.int p1), .val (.int p2), .val (.int (1 : Int32)), .val (.int (0 : Int32)), .val (.ref w1), .val (.ref w0), .unset]) rfl k) ?_
    show own_Run p e below Φ (T14.setTop (mkF m 20 #[.val (.int p1), .val (.int p2), .val (.int (1 : Int32)), .val (.int (0 : Int32)), .val (.ref w1), .val (.ref w0), .unset] []))
    refine own_go (fun t k => XS.iloadN X14.here hx rfl (hb hby at_20) rfl  k) ?_
    refine own_go (fun t k => XS.ifYes X14.here hx rfl (pc0 := 21) (pc' := 30) rfl (hb hby at_21) rfl ((if0 _ _).trans (feq (by decide : ¬ ((1 : Int32) = (0 : Int32)))).2) (by decide) (by decide) k) ?_
    refine own_go (fun t k => XS.iloadN X14.here hx rfl (hb hby at_30) rfl  k) ?_
    refine own_go (fun t k => XS.iconst X14.here hx rfl (hb hby at_31) k) ?_
    refine own_go (fun t k => XS.icmpYes X14.here hx rfl (pc0 := 32) (pc' := 41) rfl (hb hby at_32) rfl (feq (by decide : ¬ ((1 : Int32) = (2 : Int32)))).2 (by decide) (by decide) k) ?_
    show own_Run p e below Φ (T14.setTop (mkF m 41 #[.val (.int p1), .val (.int p2), .val (.int (1 : Int32)), .val (.int (0 : Int32)), .val (.ref w1), .val (.ref w0), .unset] []))
    refine own_go (fun t k => XS.iloadN X14.here hx rfl (hb hby at_41) rfl  k) ?_
    refine own_go (fun t k => XS.iconst X14.here hx rfl (hb hby at_42) k) ?_
    refine own_go (fun t k => XS.icmpNo X14.here hx rfl (hb hby at_43) rfl (feq (by decide : ¬ ((0 : Int32) = (1 : Int32)))).1 k) ?_
    refine own_go (fun t k => XS.iloadN X14.here hx rfl (hb hby at_46) rfl  k) ?_
    refine own_go (fun t k => XS.iconst X14.here hx rfl (hb hby at_47) k) ?_
    show own_Run p e below Φ (T14.setTop (mkF m 48 #[.val (.int p1), .val (.int p2), .val (.int (1 : Int32)), .val (.int (0 : Int32)), .val (.ref w1), .val (.ref w0), .unset] [(.int (2 : Int32)), (.int (0 : Int32))]))
    refine own_go (fun t k => XS.icmpYes X14.here hx rfl (pc0 := 48) (pc' := 55) rfl (hb hby at_48) rfl (feq (by decide : ¬ ((0 : Int32) = (2 : Int32)))).2 (by decide) (by decide) k) ?_
    refine own_go (fun t k => XS.iconst X14.here hx rfl (hb hby at_55) k) ?_
    refine own_go (fun t k => XS.istore X14.here hx rfl (hb hby at_56) rfl (l' := #[.val (.int p1), .val (.int p2), .val (.int (1 : Int32)), .val (.int (0 : Int32)), .val (.ref w1), .val (.ref w0), .val (.int (0 : Int32))]) rfl k) ?_
    refine own_go (fun t k => XS.aload X14.here hx rfl (hb hby at_58) rfl rfl  k) ?_
    refine own_go (fun t k => XS.aload X14.here hx rfl (hb hby at_60) rfl rfl  k) ?_
    show own_Run p e below Φ (T14.setTop (mkF m 62 #[.val (.int p1), .val (.int p2), .val (.int (1 : Int32)), .val (.int (0 : Int32)), .val (.ref w1), .val (.ref w0), .val (.int (0 : Int32))] [(.ref w0), (.ref w1)]))
    refine own_callV X14 hx hZ (y := (⟨"com/example/glossyn/glossyn/query/OperatorKind", "admits", "(Lcom/example/glossyn/glossyn/query/OperatorKind;)Z"⟩ : MethodName)) (z := (⟨"com/example/glossyn/glossyn/query/OperatorKind", "admits", "(Lcom/example/glossyn/glossyn/query/OperatorKind;)Z"⟩ : MethodName)) (W := 0) (a := w1) (argsL := [(.ref w0)]) (rest := []) hown (hw _ (List.mem_of_getElem? (i := 9) rfl)) (hw _ (List.mem_of_getElem? (i := 10) rfl)) (notFace_of_selects (args := #[]) (mvT hZ (hw _ (List.mem_of_getElem? (i := 12) rfl)))) (hw _ (List.mem_of_getElem? (i := 12) rfl)) (hw _ (List.mem_of_getElem? (i := 11) rfl)) (by decide) (own_bk (rm_adm1 l Z a0 hw w1 w0 w1 w2 h0 n0 A1 B1 O0 S1 S2) hZ (hw _ (List.mem_of_getElem? (i := 13) rfl)) (hw _ (List.mem_of_getElem? (i := 5) rfl)) (by decide) (by decide)) e14 A1 (g := (mkF m 62 #[.val (.int p1), .val (.int p2), .val (.int (1 : Int32)), .val (.int (0 : Int32)), .val (.ref w1), .val (.ref w0), .val (.int (0 : Int32))] [(.ref w0), (.ref w1)])) rfl (by rw [hml]; rfl) (lenOf pd_1 rfl) rfl (by show 2 * 0 + _ ≤ _; exact Nat.le_of_eq rfl) (hb hby at_62) (by decide) (by decide) (fun v15 T15 h15 L15 X15 e15 q15 => ?_)
    obtain ⟨rfl, M15, s15⟩ := q15
    replace e15 : T15.heap = h0 := e15.trans s15
    have N15 := Fr.app N14 M15
    show own_Run p e below Φ (T15.setTop (mkF m 65 #[.val (.int p1), .val (.int p2), .val (.int (1 : Int32)), .val (.int (0 : Int32)), .val (.ref w1), .val (.ref w0), .val (.int (0 : Int32))] [(.int (own_in w0 w1 w2))]))
    rw [show (own_in w0 w1 w2) = (0 : Int32) from (by unfold own_in; rw [if_neg ne01, if_neg ne02])]
    show own_Run p e below Φ (T15.setTop (mkF m 65 #[.val (.int p1), .val (.int p2), .val (.int (1 : Int32)), .val (.int (0 : Int32)), .val (.ref w1), .val (.ref w0), .val (.int (0 : Int32))] [(.int (0 : Int32))]))
    refine own_go (fun t k => XS.iload X15.here hx rfl (hb hby at_65) rfl  k) ?_
    refine own_go (fun t k => XS.icmpNo X15.here hx rfl (hb hby at_67) rfl (teq (rfl : (0 : Int32) = (0 : Int32))).2 k) ?_
    refine own_go (fun t k => XS.iconst X15.here hx rfl (hb hby at_70) k) ?_
    refine own_go (fun t k => XS.goto X15.here hx rfl (pc0 := 71) (pc' := 75) rfl (hb hby at_71) (by decide) (by decide) k) ?_
    subst hΦ
    exact own_retN X15 hx (t := .boolean) Bd.returns (by simp) hlk (hb hby at_75) e15 ⟨rfl, N15⟩ (by decide) (by decide)
  · rw [e1, e2]
    show own_Run p e below Φ (s₁.setTop (mkF m 8 #[.val (.int p1), .val (.int p2), .val (.int (1 : Int32)), .val (.int (1 : Int32)), .unset, .unset, .unset] []))
    refine own_go (fun t k => XS.iloadN X0.here hx rfl (hb hby at_8) rfl  k) ?_
    show own_Run p e below Φ (s₁.setTop (mkF m 9 #[.val (.int p1), .val (.int p2), .val (.int (1 : Int32)), .val (.int (1 : Int32)), .unset, .unset, .unset] [(.int (1 : Int32))]))
    refine own_callS X0 hx hZ (y := (⟨"com/example/glossyn/glossyn/query/OperatorKindAdmitsPinLaw", "pick", "(I)Lcom/example/glossyn/glossyn/query/OperatorKind;"⟩ : MethodName)) (W := 0) (argsL := [(.int (1 : Int32))]) (rest := []) hown (hw _ (List.mem_of_getElem? (i := 0) rfl)) (hw _ (List.mem_of_getElem? (i := 1) rfl)) (hw _ (List.mem_of_getElem? (i := 2) rfl)) (hw _ (List.mem_of_getElem? (i := 3) rfl)) (by decide) (own_bk (rm_pick l Z a0 hw (1 : Int32) w0 w1 w2 w3 h0 n0 O0 S0 S1 S2 S3) hZ (hw _ (List.mem_of_getElem? (i := 3) rfl)) (hw _ (List.mem_of_getElem? (i := 2) rfl)) (by decide) (by decide)) e0 (g := (mkF m 9 #[.val (.int p1), .val (.int p2), .val (.int (1 : Int32)), .val (.int (1 : Int32)), .unset, .unset, .unset] [(.int (1 : Int32))])) rfl (by rw [hml]; rfl) (lenOf pd_0 rfl) rfl (by show 2 * 0 + _ ≤ _; exact Nat.le_of_eq rfl) (hb hby at_9) (by decide) (by decide) (fun v16 T16 h16 L16 X16 e16 q16 => ?_)
    obtain ⟨rfl, M16, s16⟩ := q16
    replace e16 : T16.heap = h0 := e16.trans s16
    have N16 := Fr.app N0 M16
    refine own_go (fun t k => XS.astore X16.here hx rfl (hb hby at_12) rfl rfl (l' := #[.val (.int p1), .val (.int p2), .val (.int (1 : Int32)), .val (.int (1 : Int32)), .val (.ref w1), .unset, .unset]) rfl k) ?_
    refine own_go (fun t k => XS.iloadN X16.here hx rfl (hb hby at_14) rfl  k) ?_
    refine own_callS X16 hx hZ (y := (⟨"com/example/glossyn/glossyn/query/OperatorKindAdmitsPinLaw", "pick", "(I)Lcom/example/glossyn/glossyn/query/OperatorKind;"⟩ : MethodName)) (W := 0) (argsL := [(.int (1 : Int32))]) (rest := []) hown (hw _ (List.mem_of_getElem? (i := 0) rfl)) (hw _ (List.mem_of_getElem? (i := 1) rfl)) (hw _ (List.mem_of_getElem? (i := 2) rfl)) (hw _ (List.mem_of_getElem? (i := 3) rfl)) (by decide) (own_bk (rm_pick l Z a0 hw (1 : Int32) w0 w1 w2 w3 h0 n0 O0 S0 S1 S2 S3) hZ (hw _ (List.mem_of_getElem? (i := 3) rfl)) (hw _ (List.mem_of_getElem? (i := 2) rfl)) (by decide) (by decide)) e16 (g := (mkF m 15 #[.val (.int p1), .val (.int p2), .val (.int (1 : Int32)), .val (.int (1 : Int32)), .val (.ref w1), .unset, .unset] [(.int (1 : Int32))])) rfl (by rw [hml]; rfl) (lenOf pd_0 rfl) rfl (by show 2 * 0 + _ ≤ _; exact Nat.le_of_eq rfl) (hb hby at_15) (by decide) (by decide) (fun v17 T17 h17 L17 X17 e17 q17 => ?_)
    obtain ⟨rfl, M17, s17⟩ := q17
    replace e17 : T17.heap = h0 := e17.trans s17
    have N17 := Fr.app N16 M17
    refine own_go (fun t k => XS.astore X17.here hx rfl (hb hby at_18) rfl rfl (l' := #[.val (.int p1), .val (.int p2), .val (.int (1 : Int32)), .val (.int (1 : Int32)), .val (.ref w1), .val (.ref w1), .unset]) rfl k) ?_
    show own_Run p e below Φ (T17.setTop (mkF m 20 #[.val (.int p1), .val (.int p2), .val (.int (1 : Int32)), .val (.int (1 : Int32)), .val (.ref w1), .val (.ref w1), .unset] []))
    refine own_go (fun t k => XS.iloadN X17.here hx rfl (hb hby at_20) rfl  k) ?_
    refine own_go (fun t k => XS.ifYes X17.here hx rfl (pc0 := 21) (pc' := 30) rfl (hb hby at_21) rfl ((if0 _ _).trans (feq (by decide : ¬ ((1 : Int32) = (0 : Int32)))).2) (by decide) (by decide) k) ?_
    refine own_go (fun t k => XS.iloadN X17.here hx rfl (hb hby at_30) rfl  k) ?_
    refine own_go (fun t k => XS.iconst X17.here hx rfl (hb hby at_31) k) ?_
    refine own_go (fun t k => XS.icmpYes X17.here hx rfl (pc0 := 32) (pc' := 41) rfl (hb hby at_32) rfl (feq (by decide : ¬ ((1 : Int32) = (2 : Int32)))).2 (by decide) (by decide) k) ?_
    show own_Run p e below Φ (T17.setTop (mkF m 41 #[.val (.int p1), .val (.int p2), .val (.int (1 : Int32)), .val (.int (1 : Int32)), .val (.ref w1), .val (.ref w1), .unset] []))
    refine own_go (fun t k => XS.iloadN X17.here hx rfl (hb hby at_41) rfl  k) ?_
    refine own_go (fun t k => XS.iconst X17.here hx rfl (hb hby at_42) k) ?_
    refine own_go (fun t k => XS.icmpYes X17.here hx rfl (pc0 := 43) (pc' := 51) rfl (hb hby at_43) rfl (teq (rfl : (1 : Int32) = (1 : Int32))).1 (by decide) (by decide) k) ?_
    refine own_go (fun t k => XS.iconst X17.here hx rfl (hb hby at_51) k) ?_
    refine own_go (fun t k => XS.goto X17.here hx rfl (pc0 := 52) (pc' := 56) rfl (hb hby at_52) (by decide) (by decide) k) ?_
    show own_Run p e below Φ (T17.setTop (mkF m 56 #[.val (.int p1), .val (.int p2), .val (.int (1 : Int32)), .val (.int (1 : Int32)), .val (.ref w1), .val (.ref w1), .unset] [(.int (1 : Int32))]))
    refine own_go (fun t k => XS.istore X17.here hx rfl (hb hby at_56) rfl (l' := #[.val (.int p1), .val (.int p2), .val (.int (1 : Int32)), .val (.int (1 : Int32)), .val (.ref w1), .val (.ref w1), .val (.int (1 : Int32))]) rfl k) ?_
    refine own_go (fun t k => XS.aload X17.here hx rfl (hb hby at_58) rfl rfl  k) ?_
    refine own_go (fun t k => XS.aload X17.here hx rfl (hb hby at_60) rfl rfl  k) ?_
    refine own_callV X17 hx hZ (y := (⟨"com/example/glossyn/glossyn/query/OperatorKind", "admits", "(Lcom/example/glossyn/glossyn/query/OperatorKind;)Z"⟩ : MethodName)) (z := (⟨"com/example/glossyn/glossyn/query/OperatorKind", "admits", "(Lcom/example/glossyn/glossyn/query/OperatorKind;)Z"⟩ : MethodName)) (W := 0) (a := w1) (argsL := [(.ref w1)]) (rest := []) hown (hw _ (List.mem_of_getElem? (i := 9) rfl)) (hw _ (List.mem_of_getElem? (i := 10) rfl)) (notFace_of_selects (args := #[]) (mvT hZ (hw _ (List.mem_of_getElem? (i := 12) rfl)))) (hw _ (List.mem_of_getElem? (i := 12) rfl)) (hw _ (List.mem_of_getElem? (i := 11) rfl)) (by decide) (own_bk (rm_adm1 l Z a0 hw w1 w1 w1 w2 h0 n0 A1 B1 O0 S1 S2) hZ (hw _ (List.mem_of_getElem? (i := 13) rfl)) (hw _ (List.mem_of_getElem? (i := 5) rfl)) (by decide) (by decide)) e17 A1 (g := (mkF m 62 #[.val (.int p1), .val (.int p2), .val (.int (1 : Int32)), .val (.int (1 : Int32)), .val (.ref w1), .val (.ref w1), .val (.int (1 : Int32))] [(.ref w1), (.ref w1)])) rfl (by rw [hml]; rfl) (lenOf pd_1 rfl) rfl (by show 2 * 0 + _ ≤ _; exact Nat.le_of_eq rfl) (hb hby at_62) (by decide) (by decide) (fun v18 T18 h18 L18 X18 e18 q18 => ?_)
    obtain ⟨rfl, M18, s18⟩ := q18
    replace e18 : T18.heap = h0 := e18.trans s18
    have N18 := Fr.app N17 M18
    show own_Run p e below Φ (T18.setTop (mkF m 65 #[.val (.int p1), .val (.int p2), .val (.int (1 : Int32)), .val (.int (1 : Int32)), .val (.ref w1), .val (.ref w1), .val (.int (1 : Int32))] [(.int (own_in w1 w1 w2))]))
    rw [show (own_in w1 w1 w2) = (1 : Int32) from (by simp [own_in])]
    show own_Run p e below Φ (T18.setTop (mkF m 65 #[.val (.int p1), .val (.int p2), .val (.int (1 : Int32)), .val (.int (1 : Int32)), .val (.ref w1), .val (.ref w1), .val (.int (1 : Int32))] [(.int (1 : Int32))]))
    refine own_go (fun t k => XS.iload X18.here hx rfl (hb hby at_65) rfl  k) ?_
    refine own_go (fun t k => XS.icmpNo X18.here hx rfl (hb hby at_67) rfl (teq (rfl : (1 : Int32) = (1 : Int32))).2 k) ?_
    refine own_go (fun t k => XS.iconst X18.here hx rfl (hb hby at_70) k) ?_
    refine own_go (fun t k => XS.goto X18.here hx rfl (pc0 := 71) (pc' := 75) rfl (hb hby at_71) (by decide) (by decide) k) ?_
    subst hΦ
    exact own_retN X18 hx (t := .boolean) Bd.returns (by simp) hlk (hb hby at_75) e18 ⟨rfl, N18⟩ (by decide) (by decide)
  · rw [e1, e2]
    show own_Run p e below Φ (s₁.setTop (mkF m 8 #[.val (.int p1), .val (.int p2), .val (.int (1 : Int32)), .val (.int (2 : Int32)), .unset, .unset, .unset] []))
    refine own_go (fun t k => XS.iloadN X0.here hx rfl (hb hby at_8) rfl  k) ?_
    show own_Run p e below Φ (s₁.setTop (mkF m 9 #[.val (.int p1), .val (.int p2), .val (.int (1 : Int32)), .val (.int (2 : Int32)), .unset, .unset, .unset] [(.int (1 : Int32))]))
    refine own_callS X0 hx hZ (y := (⟨"com/example/glossyn/glossyn/query/OperatorKindAdmitsPinLaw", "pick", "(I)Lcom/example/glossyn/glossyn/query/OperatorKind;"⟩ : MethodName)) (W := 0) (argsL := [(.int (1 : Int32))]) (rest := []) hown (hw _ (List.mem_of_getElem? (i := 0) rfl)) (hw _ (List.mem_of_getElem? (i := 1) rfl)) (hw _ (List.mem_of_getElem? (i := 2) rfl)) (hw _ (List.mem_of_getElem? (i := 3) rfl)) (by decide) (own_bk (rm_pick l Z a0 hw (1 : Int32) w0 w1 w2 w3 h0 n0 O0 S0 S1 S2 S3) hZ (hw _ (List.mem_of_getElem? (i := 3) rfl)) (hw _ (List.mem_of_getElem? (i := 2) rfl)) (by decide) (by decide)) e0 (g := (mkF m 9 #[.val (.int p1), .val (.int p2), .val (.int (1 : Int32)), .val (.int (2 : Int32)), .unset, .unset, .unset] [(.int (1 : Int32))])) rfl (by rw [hml]; rfl) (lenOf pd_0 rfl) rfl (by show 2 * 0 + _ ≤ _; exact Nat.le_of_eq rfl) (hb hby at_9) (by decide) (by decide) (fun v19 T19 h19 L19 X19 e19 q19 => ?_)
    obtain ⟨rfl, M19, s19⟩ := q19
    replace e19 : T19.heap = h0 := e19.trans s19
    have N19 := Fr.app N0 M19
    refine own_go (fun t k => XS.astore X19.here hx rfl (hb hby at_12) rfl rfl (l' := #[.val (.int p1), .val (.int p2), .val (.int (1 : Int32)), .val (.int (2 : Int32)), .val (.ref w1), .unset, .unset]) rfl k) ?_
    refine own_go (fun t k => XS.iloadN X19.here hx rfl (hb hby at_14) rfl  k) ?_
    refine own_callS X19 hx hZ (y := (⟨"com/example/glossyn/glossyn/query/OperatorKindAdmitsPinLaw", "pick", "(I)Lcom/example/glossyn/glossyn/query/OperatorKind;"⟩ : MethodName)) (W := 0) (argsL := [(.int (2 : Int32))]) (rest := []) hown (hw _ (List.mem_of_getElem? (i := 0) rfl)) (hw _ (List.mem_of_getElem? (i := 1) rfl)) (hw _ (List.mem_of_getElem? (i := 2) rfl)) (hw _ (List.mem_of_getElem? (i := 3) rfl)) (by decide) (own_bk (rm_pick l Z a0 hw (2 : Int32) w0 w1 w2 w3 h0 n0 O0 S0 S1 S2 S3) hZ (hw _ (List.mem_of_getElem? (i := 3) rfl)) (hw _ (List.mem_of_getElem? (i := 2) rfl)) (by decide) (by decide)) e19 (g := (mkF m 15 #[.val (.int p1), .val (.int p2), .val (.int (1 : Int32)), .val (.int (2 : Int32)), .val (.ref w1), .unset, .unset] [(.int (2 : Int32))])) rfl (by rw [hml]; rfl) (lenOf pd_0 rfl) rfl (by show 2 * 0 + _ ≤ _; exact Nat.le_of_eq rfl) (hb hby at_15) (by decide) (by decide) (fun v20 T20 h20 L20 X20 e20 q20 => ?_)
    obtain ⟨rfl, M20, s20⟩ := q20
    replace e20 : T20.heap = h0 := e20.trans s20
    have N20 := Fr.app N19 M20
    refine own_go (fun t k => XS.astore X20.here hx rfl (hb hby at_18) rfl rfl (l' := #[.val (.int p1), .val (.int p2), .val (.int (1 : Int32)), .val (.int (2 : Int32)), .val (.ref w1), .val (.ref w2), .unset]) rfl k) ?_
    show own_Run p e below Φ (T20.setTop (mkF m 20 #[.val (.int p1), .val (.int p2), .val (.int (1 : Int32)), .val (.int (2 : Int32)), .val (.ref w1), .val (.ref w2), .unset] []))
    refine own_go (fun t k => XS.iloadN X20.here hx rfl (hb hby at_20) rfl  k) ?_
    refine own_go (fun t k => XS.ifYes X20.here hx rfl (pc0 := 21) (pc' := 30) rfl (hb hby at_21) rfl ((if0 _ _).trans (feq (by decide : ¬ ((1 : Int32) = (0 : Int32)))).2) (by decide) (by decide) k) ?_
    refine own_go (fun t k => XS.iloadN X20.here hx rfl (hb hby at_30) rfl  k) ?_
    refine own_go (fun t k => XS.iconst X20.here hx rfl (hb hby at_31) k) ?_
    refine own_go (fun t k => XS.icmpYes X20.here hx rfl (pc0 := 32) (pc' := 41) rfl (hb hby at_32) rfl (feq (by decide : ¬ ((1 : Int32) = (2 : Int32)))).2 (by decide) (by decide) k) ?_
    show own_Run p e below Φ (T20.setTop (mkF m 41 #[.val (.int p1), .val (.int p2), .val (.int (1 : Int32)), .val (.int (2 : Int32)), .val (.ref w1), .val (.ref w2), .unset] []))
    refine own_go (fun t k => XS.iloadN X20.here hx rfl (hb hby at_41) rfl  k) ?_
    refine own_go (fun t k => XS.iconst X20.here hx rfl (hb hby at_42) k) ?_
    refine own_go (fun t k => XS.icmpNo X20.here hx rfl (hb hby at_43) rfl (feq (by decide : ¬ ((2 : Int32) = (1 : Int32)))).1 k) ?_
    refine own_go (fun t k => XS.iloadN X20.here hx rfl (hb hby at_46) rfl  k) ?_
    refine own_go (fun t k => XS.iconst X20.here hx rfl (hb hby at_47) k) ?_
    show own_Run p e below Φ (T20.setTop (mkF m 48 #[.val (.int p1), .val (.int p2), .val (.int (1 : Int32)), .val (.int (2 : Int32)), .val (.ref w1), .val (.ref w2), .unset] [(.int (2 : Int32)), (.int (2 : Int32))]))
    refine own_go (fun t k => XS.icmpNo X20.here hx rfl (hb hby at_48) rfl (teq (rfl : (2 : Int32) = (2 : Int32))).2 k) ?_
    refine own_go (fun t k => XS.iconst X20.here hx rfl (hb hby at_51) k) ?_
    refine own_go (fun t k => XS.goto X20.here hx rfl (pc0 := 52) (pc' := 56) rfl (hb hby at_52) (by decide) (by decide) k) ?_
    refine own_go (fun t k => XS.istore X20.here hx rfl (hb hby at_56) rfl (l' := #[.val (.int p1), .val (.int p2), .val (.int (1 : Int32)), .val (.int (2 : Int32)), .val (.ref w1), .val (.ref w2), .val (.int (1 : Int32))]) rfl k) ?_
    refine own_go (fun t k => XS.aload X20.here hx rfl (hb hby at_58) rfl rfl  k) ?_
    show own_Run p e below Φ (T20.setTop (mkF m 60 #[.val (.int p1), .val (.int p2), .val (.int (1 : Int32)), .val (.int (2 : Int32)), .val (.ref w1), .val (.ref w2), .val (.int (1 : Int32))] [(.ref w1)]))
    refine own_go (fun t k => XS.aload X20.here hx rfl (hb hby at_60) rfl rfl  k) ?_
    refine own_callV X20 hx hZ (y := (⟨"com/example/glossyn/glossyn/query/OperatorKind", "admits", "(Lcom/example/glossyn/glossyn/query/OperatorKind;)Z"⟩ : MethodName)) (z := (⟨"com/example/glossyn/glossyn/query/OperatorKind", "admits", "(Lcom/example/glossyn/glossyn/query/OperatorKind;)Z"⟩ : MethodName)) (W := 0) (a := w1) (argsL := [(.ref w2)]) (rest := []) hown (hw _ (List.mem_of_getElem? (i := 9) rfl)) (hw _ (List.mem_of_getElem? (i := 10) rfl)) (notFace_of_selects (args := #[]) (mvT hZ (hw _ (List.mem_of_getElem? (i := 12) rfl)))) (hw _ (List.mem_of_getElem? (i := 12) rfl)) (hw _ (List.mem_of_getElem? (i := 11) rfl)) (by decide) (own_bk (rm_adm1 l Z a0 hw w1 w2 w1 w2 h0 n0 A1 B1 O0 S1 S2) hZ (hw _ (List.mem_of_getElem? (i := 13) rfl)) (hw _ (List.mem_of_getElem? (i := 5) rfl)) (by decide) (by decide)) e20 A1 (g := (mkF m 62 #[.val (.int p1), .val (.int p2), .val (.int (1 : Int32)), .val (.int (2 : Int32)), .val (.ref w1), .val (.ref w2), .val (.int (1 : Int32))] [(.ref w2), (.ref w1)])) rfl (by rw [hml]; rfl) (lenOf pd_1 rfl) rfl (by show 2 * 0 + _ ≤ _; exact Nat.le_of_eq rfl) (hb hby at_62) (by decide) (by decide) (fun v21 T21 h21 L21 X21 e21 q21 => ?_)
    obtain ⟨rfl, M21, s21⟩ := q21
    replace e21 : T21.heap = h0 := e21.trans s21
    have N21 := Fr.app N20 M21
    show own_Run p e below Φ (T21.setTop (mkF m 65 #[.val (.int p1), .val (.int p2), .val (.int (1 : Int32)), .val (.int (2 : Int32)), .val (.ref w1), .val (.ref w2), .val (.int (1 : Int32))] [(.int (own_in w2 w1 w2))]))
    rw [show (own_in w2 w1 w2) = (1 : Int32) from (by unfold own_in; rw [if_neg (Ne.symm ne12), if_pos rfl])]
    show own_Run p e below Φ (T21.setTop (mkF m 65 #[.val (.int p1), .val (.int p2), .val (.int (1 : Int32)), .val (.int (2 : Int32)), .val (.ref w1), .val (.ref w2), .val (.int (1 : Int32))] [(.int (1 : Int32))]))
    refine own_go (fun t k => XS.iload X21.here hx rfl (hb hby at_65) rfl  k) ?_
    refine own_go (fun t k => XS.icmpNo X21.here hx rfl (hb hby at_67) rfl (teq (rfl : (1 : Int32) = (1 : Int32))).2 k) ?_
    refine own_go (fun t k => XS.iconst X21.here hx rfl (hb hby at_70) k) ?_
    refine own_go (fun t k => XS.goto X21.here hx rfl (pc0 := 71) (pc' := 75) rfl (hb hby at_71) (by decide) (by decide) k) ?_
    subst hΦ
    exact own_retN X21 hx (t := .boolean) Bd.returns (by simp) hlk (hb hby at_75) e21 ⟨rfl, N21⟩ (by decide) (by decide)
  · rw [e1, e2]
    show own_Run p e below Φ (s₁.setTop (mkF m 8 #[.val (.int p1), .val (.int p2), .val (.int (1 : Int32)), .val (.int (3 : Int32)), .unset, .unset, .unset] []))
    refine own_go (fun t k => XS.iloadN X0.here hx rfl (hb hby at_8) rfl  k) ?_
    show own_Run p e below Φ (s₁.setTop (mkF m 9 #[.val (.int p1), .val (.int p2), .val (.int (1 : Int32)), .val (.int (3 : Int32)), .unset, .unset, .unset] [(.int (1 : Int32))]))
    refine own_callS X0 hx hZ (y := (⟨"com/example/glossyn/glossyn/query/OperatorKindAdmitsPinLaw", "pick", "(I)Lcom/example/glossyn/glossyn/query/OperatorKind;"⟩ : MethodName)) (W := 0) (argsL := [(.int (1 : Int32))]) (rest := []) hown (hw _ (List.mem_of_getElem? (i := 0) rfl)) (hw _ (List.mem_of_getElem? (i := 1) rfl)) (hw _ (List.mem_of_getElem? (i := 2) rfl)) (hw _ (List.mem_of_getElem? (i := 3) rfl)) (by decide) (own_bk (rm_pick l Z a0 hw (1 : Int32) w0 w1 w2 w3 h0 n0 O0 S0 S1 S2 S3) hZ (hw _ (List.mem_of_getElem? (i := 3) rfl)) (hw _ (List.mem_of_getElem? (i := 2) rfl)) (by decide) (by decide)) e0 (g := (mkF m 9 #[.val (.int p1), .val (.int p2), .val (.int (1 : Int32)), .val (.int (3 : Int32)), .unset, .unset, .unset] [(.int (1 : Int32))])) rfl (by rw [hml]; rfl) (lenOf pd_0 rfl) rfl (by show 2 * 0 + _ ≤ _; exact Nat.le_of_eq rfl) (hb hby at_9) (by decide) (by decide) (fun v22 T22 h22 L22 X22 e22 q22 => ?_)
    obtain ⟨rfl, M22, s22⟩ := q22
    replace e22 : T22.heap = h0 := e22.trans s22
    have N22 := Fr.app N0 M22
    refine own_go (fun t k => XS.astore X22.here hx rfl (hb hby at_12) rfl rfl (l' := #[.val (.int p1), .val (.int p2), .val (.int (1 : Int32)), .val (.int (3 : Int32)), .val (.ref w1), .unset, .unset]) rfl k) ?_
    refine own_go (fun t k => XS.iloadN X22.here hx rfl (hb hby at_14) rfl  k) ?_
    refine own_callS X22 hx hZ (y := (⟨"com/example/glossyn/glossyn/query/OperatorKindAdmitsPinLaw", "pick", "(I)Lcom/example/glossyn/glossyn/query/OperatorKind;"⟩ : MethodName)) (W := 0) (argsL := [(.int (3 : Int32))]) (rest := []) hown (hw _ (List.mem_of_getElem? (i := 0) rfl)) (hw _ (List.mem_of_getElem? (i := 1) rfl)) (hw _ (List.mem_of_getElem? (i := 2) rfl)) (hw _ (List.mem_of_getElem? (i := 3) rfl)) (by decide) (own_bk (rm_pick l Z a0 hw (3 : Int32) w0 w1 w2 w3 h0 n0 O0 S0 S1 S2 S3) hZ (hw _ (List.mem_of_getElem? (i := 3) rfl)) (hw _ (List.mem_of_getElem? (i := 2) rfl)) (by decide) (by decide)) e22 (g := (mkF m 15 #[.val (.int p1), .val (.int p2), .val (.int (1 : Int32)), .val (.int (3 : Int32)), .val (.ref w1), .unset, .unset] [(.int (3 : Int32))])) rfl (by rw [hml]; rfl) (lenOf pd_0 rfl) rfl (by show 2 * 0 + _ ≤ _; exact Nat.le_of_eq rfl) (hb hby at_15) (by decide) (by decide) (fun v23 T23 h23 L23 X23 e23 q23 => ?_)
    obtain ⟨rfl, M23, s23⟩ := q23
    replace e23 : T23.heap = h0 := e23.trans s23
    have N23 := Fr.app N22 M23
    refine own_go (fun t k => XS.astore X23.here hx rfl (hb hby at_18) rfl rfl (l' := #[.val (.int p1), .val (.int p2), .val (.int (1 : Int32)), .val (.int (3 : Int32)), .val (.ref w1), .val (.ref w3), .unset]) rfl k) ?_
    show own_Run p e below Φ (T23.setTop (mkF m 20 #[.val (.int p1), .val (.int p2), .val (.int (1 : Int32)), .val (.int (3 : Int32)), .val (.ref w1), .val (.ref w3), .unset] []))
    refine own_go (fun t k => XS.iloadN X23.here hx rfl (hb hby at_20) rfl  k) ?_
    refine own_go (fun t k => XS.ifYes X23.here hx rfl (pc0 := 21) (pc' := 30) rfl (hb hby at_21) rfl ((if0 _ _).trans (feq (by decide : ¬ ((1 : Int32) = (0 : Int32)))).2) (by decide) (by decide) k) ?_
    refine own_go (fun t k => XS.iloadN X23.here hx rfl (hb hby at_30) rfl  k) ?_
    refine own_go (fun t k => XS.iconst X23.here hx rfl (hb hby at_31) k) ?_
    refine own_go (fun t k => XS.icmpYes X23.here hx rfl (pc0 := 32) (pc' := 41) rfl (hb hby at_32) rfl (feq (by decide : ¬ ((1 : Int32) = (2 : Int32)))).2 (by decide) (by decide) k) ?_
    show own_Run p e below Φ (T23.setTop (mkF m 41 #[.val (.int p1), .val (.int p2), .val (.int (1 : Int32)), .val (.int (3 : Int32)), .val (.ref w1), .val (.ref w3), .unset] []))
    refine own_go (fun t k => XS.iloadN X23.here hx rfl (hb hby at_41) rfl  k) ?_
    refine own_go (fun t k => XS.iconst X23.here hx rfl (hb hby at_42) k) ?_
    refine own_go (fun t k => XS.icmpNo X23.here hx rfl (hb hby at_43) rfl (feq (by decide : ¬ ((3 : Int32) = (1 : Int32)))).1 k) ?_
    refine own_go (fun t k => XS.iloadN X23.here hx rfl (hb hby at_46) rfl  k) ?_
    refine own_go (fun t k => XS.iconst X23.here hx rfl (hb hby at_47) k) ?_
    show own_Run p e below Φ (T23.setTop (mkF m 48 #[.val (.int p1), .val (.int p2), .val (.int (1 : Int32)), .val (.int (3 : Int32)), .val (.ref w1), .val (.ref w3), .unset] [(.int (2 : Int32)), (.int (3 : Int32))]))
    refine own_go (fun t k => XS.icmpYes X23.here hx rfl (pc0 := 48) (pc' := 55) rfl (hb hby at_48) rfl (feq (by decide : ¬ ((3 : Int32) = (2 : Int32)))).2 (by decide) (by decide) k) ?_
    refine own_go (fun t k => XS.iconst X23.here hx rfl (hb hby at_55) k) ?_
    refine own_go (fun t k => XS.istore X23.here hx rfl (hb hby at_56) rfl (l' := #[.val (.int p1), .val (.int p2), .val (.int (1 : Int32)), .val (.int (3 : Int32)), .val (.ref w1), .val (.ref w3), .val (.int (0 : Int32))]) rfl k) ?_
    refine own_go (fun t k => XS.aload X23.here hx rfl (hb hby at_58) rfl rfl  k) ?_
    refine own_go (fun t k => XS.aload X23.here hx rfl (hb hby at_60) rfl rfl  k) ?_
    show own_Run p e below Φ (T23.setTop (mkF m 62 #[.val (.int p1), .val (.int p2), .val (.int (1 : Int32)), .val (.int (3 : Int32)), .val (.ref w1), .val (.ref w3), .val (.int (0 : Int32))] [(.ref w3), (.ref w1)]))
    refine own_callV X23 hx hZ (y := (⟨"com/example/glossyn/glossyn/query/OperatorKind", "admits", "(Lcom/example/glossyn/glossyn/query/OperatorKind;)Z"⟩ : MethodName)) (z := (⟨"com/example/glossyn/glossyn/query/OperatorKind", "admits", "(Lcom/example/glossyn/glossyn/query/OperatorKind;)Z"⟩ : MethodName)) (W := 0) (a := w1) (argsL := [(.ref w3)]) (rest := []) hown (hw _ (List.mem_of_getElem? (i := 9) rfl)) (hw _ (List.mem_of_getElem? (i := 10) rfl)) (notFace_of_selects (args := #[]) (mvT hZ (hw _ (List.mem_of_getElem? (i := 12) rfl)))) (hw _ (List.mem_of_getElem? (i := 12) rfl)) (hw _ (List.mem_of_getElem? (i := 11) rfl)) (by decide) (own_bk (rm_adm1 l Z a0 hw w1 w3 w1 w2 h0 n0 A1 B1 O0 S1 S2) hZ (hw _ (List.mem_of_getElem? (i := 13) rfl)) (hw _ (List.mem_of_getElem? (i := 5) rfl)) (by decide) (by decide)) e23 A1 (g := (mkF m 62 #[.val (.int p1), .val (.int p2), .val (.int (1 : Int32)), .val (.int (3 : Int32)), .val (.ref w1), .val (.ref w3), .val (.int (0 : Int32))] [(.ref w3), (.ref w1)])) rfl (by rw [hml]; rfl) (lenOf pd_1 rfl) rfl (by show 2 * 0 + _ ≤ _; exact Nat.le_of_eq rfl) (hb hby at_62) (by decide) (by decide) (fun v24 T24 h24 L24 X24 e24 q24 => ?_)
    obtain ⟨rfl, M24, s24⟩ := q24
    replace e24 : T24.heap = h0 := e24.trans s24
    have N24 := Fr.app N23 M24
    show own_Run p e below Φ (T24.setTop (mkF m 65 #[.val (.int p1), .val (.int p2), .val (.int (1 : Int32)), .val (.int (3 : Int32)), .val (.ref w1), .val (.ref w3), .val (.int (0 : Int32))] [(.int (own_in w3 w1 w2))]))
    rw [show (own_in w3 w1 w2) = (0 : Int32) from (by unfold own_in; rw [if_neg (Ne.symm ne13), if_neg (Ne.symm ne23)])]
    show own_Run p e below Φ (T24.setTop (mkF m 65 #[.val (.int p1), .val (.int p2), .val (.int (1 : Int32)), .val (.int (3 : Int32)), .val (.ref w1), .val (.ref w3), .val (.int (0 : Int32))] [(.int (0 : Int32))]))
    refine own_go (fun t k => XS.iload X24.here hx rfl (hb hby at_65) rfl  k) ?_
    refine own_go (fun t k => XS.icmpNo X24.here hx rfl (hb hby at_67) rfl (teq (rfl : (0 : Int32) = (0 : Int32))).2 k) ?_
    refine own_go (fun t k => XS.iconst X24.here hx rfl (hb hby at_70) k) ?_
    refine own_go (fun t k => XS.goto X24.here hx rfl (pc0 := 71) (pc' := 75) rfl (hb hby at_71) (by decide) (by decide) k) ?_
    subst hΦ
    exact own_retN X24 hx (t := .boolean) Bd.returns (by simp) hlk (hb hby at_75) e24 ⟨rfl, N24⟩ (by decide) (by decide)
  · rw [e1, e2]
    show own_Run p e below Φ (s₁.setTop (mkF m 8 #[.val (.int p1), .val (.int p2), .val (.int (2 : Int32)), .val (.int (0 : Int32)), .unset, .unset, .unset] []))
    refine own_go (fun t k => XS.iloadN X0.here hx rfl (hb hby at_8) rfl  k) ?_
    show own_Run p e below Φ (s₁.setTop (mkF m 9 #[.val (.int p1), .val (.int p2), .val (.int (2 : Int32)), .val (.int (0 : Int32)), .unset, .unset, .unset] [(.int (2 : Int32))]))
    refine own_callS X0 hx hZ (y := (⟨"com/example/glossyn/glossyn/query/OperatorKindAdmitsPinLaw", "pick", "(I)Lcom/example/glossyn/glossyn/query/OperatorKind;"⟩ : MethodName)) (W := 0) (argsL := [(.int (2 : Int32))]) (rest := []) hown (hw _ (List.mem_of_getElem? (i := 0) rfl)) (hw _ (List.mem_of_getElem? (i := 1) rfl)) (hw _ (List.mem_of_getElem? (i := 2) rfl)) (hw _ (List.mem_of_getElem? (i := 3) rfl)) (by decide) (own_bk (rm_pick l Z a0 hw (2 : Int32) w0 w1 w2 w3 h0 n0 O0 S0 S1 S2 S3) hZ (hw _ (List.mem_of_getElem? (i := 3) rfl)) (hw _ (List.mem_of_getElem? (i := 2) rfl)) (by decide) (by decide)) e0 (g := (mkF m 9 #[.val (.int p1), .val (.int p2), .val (.int (2 : Int32)), .val (.int (0 : Int32)), .unset, .unset, .unset] [(.int (2 : Int32))])) rfl (by rw [hml]; rfl) (lenOf pd_0 rfl) rfl (by show 2 * 0 + _ ≤ _; exact Nat.le_of_eq rfl) (hb hby at_9) (by decide) (by decide) (fun v25 T25 h25 L25 X25 e25 q25 => ?_)
    obtain ⟨rfl, M25, s25⟩ := q25
    replace e25 : T25.heap = h0 := e25.trans s25
    have N25 := Fr.app N0 M25
    refine own_go (fun t k => XS.astore X25.here hx rfl (hb hby at_12) rfl rfl (l' := #[.val (.int p1), .val (.int p2), .val (.int (2 : Int32)), .val (.int (0 : Int32)), .val (.ref w2), .unset, .unset]) rfl k) ?_
    refine own_go (fun t k => XS.iloadN X25.here hx rfl (hb hby at_14) rfl  k) ?_
    refine own_callS X25 hx hZ (y := (⟨"com/example/glossyn/glossyn/query/OperatorKindAdmitsPinLaw", "pick", "(I)Lcom/example/glossyn/glossyn/query/OperatorKind;"⟩ : MethodName)) (W := 0) (argsL := [(.int (0 : Int32))]) (rest := []) hown (hw _ (List.mem_of_getElem? (i := 0) rfl)) (hw _ (List.mem_of_getElem? (i := 1) rfl)) (hw _ (List.mem_of_getElem? (i := 2) rfl)) (hw _ (List.mem_of_getElem? (i := 3) rfl)) (by decide) (own_bk (rm_pick l Z a0 hw (0 : Int32) w0 w1 w2 w3 h0 n0 O0 S0 S1 S2 S3) hZ (hw _ (List.mem_of_getElem? (i := 3) rfl)) (hw _ (List.mem_of_getElem? (i := 2) rfl)) (by decide) (by decide)) e25 (g := (mkF m 15 #[.val (.int p1), .val (.int p2), .val (.int (2 : Int32)), .val (.int (0 : Int32)), .val (.ref w2), .unset, .unset] [(.int (0 : Int32))])) rfl (by rw [hml]; rfl) (lenOf pd_0 rfl) rfl (by show 2 * 0 + _ ≤ _; exact Nat.le_of_eq rfl) (hb hby at_15) (by decide) (by decide) (fun v26 T26 h26 L26 X26 e26 q26 => ?_)
    obtain ⟨rfl, M26, s26⟩ := q26
    replace e26 : T26.heap = h0 := e26.trans s26
    have N26 := Fr.app N25 M26
    refine own_go (fun t k => XS.astore X26.here hx rfl (hb hby at_18) rfl rfl (l' := #[.val (.int p1), .val (.int p2), .val (.int (2 : Int32)), .val (.int (0 : Int32)), .val (.ref w2), .val (.ref w0), .unset]) rfl k) ?_
    show own_Run p e below Φ (T26.setTop (mkF m 20 #[.val (.int p1), .val (.int p2), .val (.int (2 : Int32)), .val (.int (0 : Int32)), .val (.ref w2), .val (.ref w0), .unset] []))
    refine own_go (fun t k => XS.iloadN X26.here hx rfl (hb hby at_20) rfl  k) ?_
    refine own_go (fun t k => XS.ifYes X26.here hx rfl (pc0 := 21) (pc' := 30) rfl (hb hby at_21) rfl ((if0 _ _).trans (feq (by decide : ¬ ((2 : Int32) = (0 : Int32)))).2) (by decide) (by decide) k) ?_
    refine own_go (fun t k => XS.iloadN X26.here hx rfl (hb hby at_30) rfl  k) ?_
    refine own_go (fun t k => XS.iconst X26.here hx rfl (hb hby at_31) k) ?_
    refine own_go (fun t k => XS.icmpNo X26.here hx rfl (hb hby at_32) rfl (teq (rfl : (2 : Int32) = (2 : Int32))).2 k) ?_
    show own_Run p e below Φ (T26.setTop (mkF m 35 #[.val (.int p1), .val (.int p2), .val (.int (2 : Int32)), .val (.int (0 : Int32)), .val (.ref w2), .val (.ref w0), .unset] []))
    refine own_go (fun t k => XS.iconst X26.here hx rfl (hb hby at_35) k) ?_
    refine own_go (fun t k => XS.istore X26.here hx rfl (hb hby at_36) rfl (l' := #[.val (.int p1), .val (.int p2), .val (.int (2 : Int32)), .val (.int (0 : Int32)), .val (.ref w2), .val (.ref w0), .val (.int (0 : Int32))]) rfl k) ?_
    refine own_go (fun t k => XS.goto X26.here hx rfl (pc0 := 38) (pc' := 58) rfl (hb hby at_38) (by decide) (by decide) k) ?_
    refine own_go (fun t k => XS.aload X26.here hx rfl (hb hby at_58) rfl rfl  k) ?_
    refine own_go (fun t k => XS.aload X26.here hx rfl (hb hby at_60) rfl rfl  k) ?_
    show own_Run p e below Φ (T26.setTop (mkF m 62 #[.val (.int p1), .val (.int p2), .val (.int (2 : Int32)), .val (.int (0 : Int32)), .val (.ref w2), .val (.ref w0), .val (.int (0 : Int32))] [(.ref w0), (.ref w2)]))
    refine own_callV X26 hx hZ (y := (⟨"com/example/glossyn/glossyn/query/OperatorKind", "admits", "(Lcom/example/glossyn/glossyn/query/OperatorKind;)Z"⟩ : MethodName)) (z := (⟨"com/example/glossyn/glossyn/query/OperatorKind", "admits", "(Lcom/example/glossyn/glossyn/query/OperatorKind;)Z"⟩ : MethodName)) (W := 0) (a := w2) (argsL := [(.ref w0)]) (rest := []) hown (hw _ (List.mem_of_getElem? (i := 9) rfl)) (hw _ (List.mem_of_getElem? (i := 10) rfl)) (notFace_of_selects (args := #[]) (mvT hZ (hw _ (List.mem_of_getElem? (i := 12) rfl)))) (hw _ (List.mem_of_getElem? (i := 12) rfl)) (hw _ (List.mem_of_getElem? (i := 11) rfl)) (by decide) (own_bk (rm_adm2 l Z a0 hw w2 w0 w1 w2 h0 n0 A2 B2 O0 S1 S2) hZ (hw _ (List.mem_of_getElem? (i := 13) rfl)) (hw _ (List.mem_of_getElem? (i := 5) rfl)) (by decide) (by decide)) e26 A2 (g := (mkF m 62 #[.val (.int p1), .val (.int p2), .val (.int (2 : Int32)), .val (.int (0 : Int32)), .val (.ref w2), .val (.ref w0), .val (.int (0 : Int32))] [(.ref w0), (.ref w2)])) rfl (by rw [hml]; rfl) (lenOf pd_1 rfl) rfl (by show 2 * 0 + _ ≤ _; exact Nat.le_of_eq rfl) (hb hby at_62) (by decide) (by decide) (fun v27 T27 h27 L27 X27 e27 q27 => ?_)
    obtain ⟨rfl, M27, s27⟩ := q27
    replace e27 : T27.heap = h0 := e27.trans s27
    have N27 := Fr.app N26 M27
    show own_Run p e below Φ (T27.setTop (mkF m 65 #[.val (.int p1), .val (.int p2), .val (.int (2 : Int32)), .val (.int (0 : Int32)), .val (.ref w2), .val (.ref w0), .val (.int (0 : Int32))] [(.int (0 : Int32))]))
    refine own_go (fun t k => XS.iload X27.here hx rfl (hb hby at_65) rfl  k) ?_
    refine own_go (fun t k => XS.icmpNo X27.here hx rfl (hb hby at_67) rfl (teq (rfl : (0 : Int32) = (0 : Int32))).2 k) ?_
    refine own_go (fun t k => XS.iconst X27.here hx rfl (hb hby at_70) k) ?_
    refine own_go (fun t k => XS.goto X27.here hx rfl (pc0 := 71) (pc' := 75) rfl (hb hby at_71) (by decide) (by decide) k) ?_
    subst hΦ
    exact own_retN X27 hx (t := .boolean) Bd.returns (by simp) hlk (hb hby at_75) e27 ⟨rfl, N27⟩ (by decide) (by decide)
  · rw [e1, e2]
    show own_Run p e below Φ (s₁.setTop (mkF m 8 #[.val (.int p1), .val (.int p2), .val (.int (2 : Int32)), .val (.int (1 : Int32)), .unset, .unset, .unset] []))
    refine own_go (fun t k => XS.iloadN X0.here hx rfl (hb hby at_8) rfl  k) ?_
    show own_Run p e below Φ (s₁.setTop (mkF m 9 #[.val (.int p1), .val (.int p2), .val (.int (2 : Int32)), .val (.int (1 : Int32)), .unset, .unset, .unset] [(.int (2 : Int32))]))
    refine own_callS X0 hx hZ (y := (⟨"com/example/glossyn/glossyn/query/OperatorKindAdmitsPinLaw", "pick", "(I)Lcom/example/glossyn/glossyn/query/OperatorKind;"⟩ : MethodName)) (W := 0) (argsL := [(.int (2 : Int32))]) (rest := []) hown (hw _ (List.mem_of_getElem? (i := 0) rfl)) (hw _ (List.mem_of_getElem? (i := 1) rfl)) (hw _ (List.mem_of_getElem? (i := 2) rfl)) (hw _ (List.mem_of_getElem? (i := 3) rfl)) (by decide) (own_bk (rm_pick l Z a0 hw (2 : Int32) w0 w1 w2 w3 h0 n0 O0 S0 S1 S2 S3) hZ (hw _ (List.mem_of_getElem? (i := 3) rfl)) (hw _ (List.mem_of_getElem? (i := 2) rfl)) (by decide) (by decide)) e0 (g := (mkF m 9 #[.val (.int p1), .val (.int p2), .val (.int (2 : Int32)), .val (.int (1 : Int32)), .unset, .unset, .unset] [(.int (2 : Int32))])) rfl (by rw [hml]; rfl) (lenOf pd_0 rfl) rfl (by show 2 * 0 + _ ≤ _; exact Nat.le_of_eq rfl) (hb hby at_9) (by decide) (by decide) (fun v28 T28 h28 L28 X28 e28 q28 => ?_)
    obtain ⟨rfl, M28, s28⟩ := q28
    replace e28 : T28.heap = h0 := e28.trans s28
    have N28 := Fr.app N0 M28
    refine own_go (fun t k => XS.astore X28.here hx rfl (hb hby at_12) rfl rfl (l' := #[.val (.int p1), .val (.int p2), .val (.int (2 : Int32)), .val (.int (1 : Int32)), .val (.ref w2), .unset, .unset]) rfl k) ?_
    refine own_go (fun t k => XS.iloadN X28.here hx rfl (hb hby at_14) rfl  k) ?_
    refine own_callS X28 hx hZ (y := (⟨"com/example/glossyn/glossyn/query/OperatorKindAdmitsPinLaw", "pick", "(I)Lcom/example/glossyn/glossyn/query/OperatorKind;"⟩ : MethodName)) (W := 0) (argsL := [(.int (1 : Int32))]) (rest := []) hown (hw _ (List.mem_of_getElem? (i := 0) rfl)) (hw _ (List.mem_of_getElem? (i := 1) rfl)) (hw _ (List.mem_of_getElem? (i := 2) rfl)) (hw _ (List.mem_of_getElem? (i := 3) rfl)) (by decide) (own_bk (rm_pick l Z a0 hw (1 : Int32) w0 w1 w2 w3 h0 n0 O0 S0 S1 S2 S3) hZ (hw _ (List.mem_of_getElem? (i := 3) rfl)) (hw _ (List.mem_of_getElem? (i := 2) rfl)) (by decide) (by decide)) e28 (g := (mkF m 15 #[.val (.int p1), .val (.int p2), .val (.int (2 : Int32)), .val (.int (1 : Int32)), .val (.ref w2), .unset, .unset] [(.int (1 : Int32))])) rfl (by rw [hml]; rfl) (lenOf pd_0 rfl) rfl (by show 2 * 0 + _ ≤ _; exact Nat.le_of_eq rfl) (hb hby at_15) (by decide) (by decide) (fun v29 T29 h29 L29 X29 e29 q29 => ?_)
    obtain ⟨rfl, M29, s29⟩ := q29
    replace e29 : T29.heap = h0 := e29.trans s29
    have N29 := Fr.app N28 M29
    refine own_go (fun t k => XS.astore X29.here hx rfl (hb hby at_18) rfl rfl (l' := #[.val (.int p1), .val (.int p2), .val (.int (2 : Int32)), .val (.int (1 : Int32)), .val (.ref w2), .val (.ref w1), .unset]) rfl k) ?_
    show own_Run p e below Φ (T29.setTop (mkF m 20 #[.val (.int p1), .val (.int p2), .val (.int (2 : Int32)), .val (.int (1 : Int32)), .val (.ref w2), .val (.ref w1), .unset] []))
    refine own_go (fun t k => XS.iloadN X29.here hx rfl (hb hby at_20) rfl  k) ?_
    refine own_go (fun t k => XS.ifYes X29.here hx rfl (pc0 := 21) (pc' := 30) rfl (hb hby at_21) rfl ((if0 _ _).trans (feq (by decide : ¬ ((2 : Int32) = (0 : Int32)))).2) (by decide) (by decide) k) ?_
    refine own_go (fun t k => XS.iloadN X29.here hx rfl (hb hby at_30) rfl  k) ?_
    refine own_go (fun t k => XS.iconst X29.here hx rfl (hb hby at_31) k) ?_
    refine own_go (fun t k => XS.icmpNo X29.here hx rfl (hb hby at_32) rfl (teq (rfl : (2 : Int32) = (2 : Int32))).2 k) ?_
    show own_Run p e below Φ (T29.setTop (mkF m 35 #[.val (.int p1), .val (.int p2), .val (.int (2 : Int32)), .val (.int (1 : Int32)), .val (.ref w2), .val (.ref w1), .unset] []))
    refine own_go (fun t k => XS.iconst X29.here hx rfl (hb hby at_35) k) ?_
    refine own_go (fun t k => XS.istore X29.here hx rfl (hb hby at_36) rfl (l' := #[.val (.int p1), .val (.int p2), .val (.int (2 : Int32)), .val (.int (1 : Int32)), .val (.ref w2), .val (.ref w1), .val (.int (0 : Int32))]) rfl k) ?_
    refine own_go (fun t k => XS.goto X29.here hx rfl (pc0 := 38) (pc' := 58) rfl (hb hby at_38) (by decide) (by decide) k) ?_
    refine own_go (fun t k => XS.aload X29.here hx rfl (hb hby at_58) rfl rfl  k) ?_
    refine own_go (fun t k => XS.aload X29.here hx rfl (hb hby at_60) rfl rfl  k) ?_
    show own_Run p e below Φ (T29.setTop (mkF m 62 #[.val (.int p1), .val (.int p2), .val (.int (2 : Int32)), .val (.int (1 : Int32)), .val (.ref w2), .val (.ref w1), .val (.int (0 : Int32))] [(.ref w1), (.ref w2)]))
    refine own_callV X29 hx hZ (y := (⟨"com/example/glossyn/glossyn/query/OperatorKind", "admits", "(Lcom/example/glossyn/glossyn/query/OperatorKind;)Z"⟩ : MethodName)) (z := (⟨"com/example/glossyn/glossyn/query/OperatorKind", "admits", "(Lcom/example/glossyn/glossyn/query/OperatorKind;)Z"⟩ : MethodName)) (W := 0) (a := w2) (argsL := [(.ref w1)]) (rest := []) hown (hw _ (List.mem_of_getElem? (i := 9) rfl)) (hw _ (List.mem_of_getElem? (i := 10) rfl)) (notFace_of_selects (args := #[]) (mvT hZ (hw _ (List.mem_of_getElem? (i := 12) rfl)))) (hw _ (List.mem_of_getElem? (i := 12) rfl)) (hw _ (List.mem_of_getElem? (i := 11) rfl)) (by decide) (own_bk (rm_adm2 l Z a0 hw w2 w1 w1 w2 h0 n0 A2 B2 O0 S1 S2) hZ (hw _ (List.mem_of_getElem? (i := 13) rfl)) (hw _ (List.mem_of_getElem? (i := 5) rfl)) (by decide) (by decide)) e29 A2 (g := (mkF m 62 #[.val (.int p1), .val (.int p2), .val (.int (2 : Int32)), .val (.int (1 : Int32)), .val (.ref w2), .val (.ref w1), .val (.int (0 : Int32))] [(.ref w1), (.ref w2)])) rfl (by rw [hml]; rfl) (lenOf pd_1 rfl) rfl (by show 2 * 0 + _ ≤ _; exact Nat.le_of_eq rfl) (hb hby at_62) (by decide) (by decide) (fun v30 T30 h30 L30 X30 e30 q30 => ?_)
    obtain ⟨rfl, M30, s30⟩ := q30
    replace e30 : T30.heap = h0 := e30.trans s30
    have N30 := Fr.app N29 M30
    show own_Run p e below Φ (T30.setTop (mkF m 65 #[.val (.int p1), .val (.int p2), .val (.int (2 : Int32)), .val (.int (1 : Int32)), .val (.ref w2), .val (.ref w1), .val (.int (0 : Int32))] [(.int (0 : Int32))]))
    refine own_go (fun t k => XS.iload X30.here hx rfl (hb hby at_65) rfl  k) ?_
    refine own_go (fun t k => XS.icmpNo X30.here hx rfl (hb hby at_67) rfl (teq (rfl : (0 : Int32) = (0 : Int32))).2 k) ?_
    refine own_go (fun t k => XS.iconst X30.here hx rfl (hb hby at_70) k) ?_
    refine own_go (fun t k => XS.goto X30.here hx rfl (pc0 := 71) (pc' := 75) rfl (hb hby at_71) (by decide) (by decide) k) ?_
    subst hΦ
    exact own_retN X30 hx (t := .boolean) Bd.returns (by simp) hlk (hb hby at_75) e30 ⟨rfl, N30⟩ (by decide) (by decide)
  · rw [e1, e2]
    show own_Run p e below Φ (s₁.setTop (mkF m 8 #[.val (.int p1), .val (.int p2), .val (.int (2 : Int32)), .val (.int (2 : Int32)), .unset, .unset, .unset] []))
    refine own_go (fun t k => XS.iloadN X0.here hx rfl (hb hby at_8) rfl  k) ?_
    show own_Run p e below Φ (s₁.setTop (mkF m 9 #[.val (.int p1), .val (.int p2), .val (.int (2 : Int32)), .val (.int (2 : Int32)), .unset, .unset, .unset] [(.int (2 : Int32))]))
    refine own_callS X0 hx hZ (y := (⟨"com/example/glossyn/glossyn/query/OperatorKindAdmitsPinLaw", "pick", "(I)Lcom/example/glossyn/glossyn/query/OperatorKind;"⟩ : MethodName)) (W := 0) (argsL := [(.int (2 : Int32))]) (rest := []) hown (hw _ (List.mem_of_getElem? (i := 0) rfl)) (hw _ (List.mem_of_getElem? (i := 1) rfl)) (hw _ (List.mem_of_getElem? (i := 2) rfl)) (hw _ (List.mem_of_getElem? (i := 3) rfl)) (by decide) (own_bk (rm_pick l Z a0 hw (2 : Int32) w0 w1 w2 w3 h0 n0 O0 S0 S1 S2 S3) hZ (hw _ (List.mem_of_getElem? (i := 3) rfl)) (hw _ (List.mem_of_getElem? (i := 2) rfl)) (by decide) (by decide)) e0 (g := (mkF m 9 #[.val (.int p1), .val (.int p2), .val (.int (2 : Int32)), .val (.int (2 : Int32)), .unset, .unset, .unset] [(.int (2 : Int32))])) rfl (by rw [hml]; rfl) (lenOf pd_0 rfl) rfl (by show 2 * 0 + _ ≤ _; exact Nat.le_of_eq rfl) (hb hby at_9) (by decide) (by decide) (fun v31 T31 h31 L31 X31 e31 q31 => ?_)
    obtain ⟨rfl, M31, s31⟩ := q31
    replace e31 : T31.heap = h0 := e31.trans s31
    have N31 := Fr.app N0 M31
    refine own_go (fun t k => XS.astore X31.here hx rfl (hb hby at_12) rfl rfl (l' := #[.val (.int p1), .val (.int p2), .val (.int (2 : Int32)), .val (.int (2 : Int32)), .val (.ref w2), .unset, .unset]) rfl k) ?_
    refine own_go (fun t k => XS.iloadN X31.here hx rfl (hb hby at_14) rfl  k) ?_
    refine own_callS X31 hx hZ (y := (⟨"com/example/glossyn/glossyn/query/OperatorKindAdmitsPinLaw", "pick", "(I)Lcom/example/glossyn/glossyn/query/OperatorKind;"⟩ : MethodName)) (W := 0) (argsL := [(.int (2 : Int32))]) (rest := []) hown (hw _ (List.mem_of_getElem? (i := 0) rfl)) (hw _ (List.mem_of_getElem? (i := 1) rfl)) (hw _ (List.mem_of_getElem? (i := 2) rfl)) (hw _ (List.mem_of_getElem? (i := 3) rfl)) (by decide) (own_bk (rm_pick l Z a0 hw (2 : Int32) w0 w1 w2 w3 h0 n0 O0 S0 S1 S2 S3) hZ (hw _ (List.mem_of_getElem? (i := 3) rfl)) (hw _ (List.mem_of_getElem? (i := 2) rfl)) (by decide) (by decide)) e31 (g := (mkF m 15 #[.val (.int p1), .val (.int p2), .val (.int (2 : Int32)), .val (.int (2 : Int32)), .val (.ref w2), .unset, .unset] [(.int (2 : Int32))])) rfl (by rw [hml]; rfl) (lenOf pd_0 rfl) rfl (by show 2 * 0 + _ ≤ _; exact Nat.le_of_eq rfl) (hb hby at_15) (by decide) (by decide) (fun v32 T32 h32 L32 X32 e32 q32 => ?_)
    obtain ⟨rfl, M32, s32⟩ := q32
    replace e32 : T32.heap = h0 := e32.trans s32
    have N32 := Fr.app N31 M32
    refine own_go (fun t k => XS.astore X32.here hx rfl (hb hby at_18) rfl rfl (l' := #[.val (.int p1), .val (.int p2), .val (.int (2 : Int32)), .val (.int (2 : Int32)), .val (.ref w2), .val (.ref w2), .unset]) rfl k) ?_
    show own_Run p e below Φ (T32.setTop (mkF m 20 #[.val (.int p1), .val (.int p2), .val (.int (2 : Int32)), .val (.int (2 : Int32)), .val (.ref w2), .val (.ref w2), .unset] []))
    refine own_go (fun t k => XS.iloadN X32.here hx rfl (hb hby at_20) rfl  k) ?_
    refine own_go (fun t k => XS.ifYes X32.here hx rfl (pc0 := 21) (pc' := 30) rfl (hb hby at_21) rfl ((if0 _ _).trans (feq (by decide : ¬ ((2 : Int32) = (0 : Int32)))).2) (by decide) (by decide) k) ?_
    refine own_go (fun t k => XS.iloadN X32.here hx rfl (hb hby at_30) rfl  k) ?_
    refine own_go (fun t k => XS.iconst X32.here hx rfl (hb hby at_31) k) ?_
    refine own_go (fun t k => XS.icmpNo X32.here hx rfl (hb hby at_32) rfl (teq (rfl : (2 : Int32) = (2 : Int32))).2 k) ?_
    show own_Run p e below Φ (T32.setTop (mkF m 35 #[.val (.int p1), .val (.int p2), .val (.int (2 : Int32)), .val (.int (2 : Int32)), .val (.ref w2), .val (.ref w2), .unset] []))
    refine own_go (fun t k => XS.iconst X32.here hx rfl (hb hby at_35) k) ?_
    refine own_go (fun t k => XS.istore X32.here hx rfl (hb hby at_36) rfl (l' := #[.val (.int p1), .val (.int p2), .val (.int (2 : Int32)), .val (.int (2 : Int32)), .val (.ref w2), .val (.ref w2), .val (.int (0 : Int32))]) rfl k) ?_
    refine own_go (fun t k => XS.goto X32.here hx rfl (pc0 := 38) (pc' := 58) rfl (hb hby at_38) (by decide) (by decide) k) ?_
    refine own_go (fun t k => XS.aload X32.here hx rfl (hb hby at_58) rfl rfl  k) ?_
    refine own_go (fun t k => XS.aload X32.here hx rfl (hb hby at_60) rfl rfl  k) ?_
    show own_Run p e below Φ (T32.setTop (mkF m 62 #[.val (.int p1), .val (.int p2), .val (.int (2 : Int32)), .val (.int (2 : Int32)), .val (.ref w2), .val (.ref w2), .val (.int (0 : Int32))] [(.ref w2), (.ref w2)]))
    refine own_callV X32 hx hZ (y := (⟨"com/example/glossyn/glossyn/query/OperatorKind", "admits", "(Lcom/example/glossyn/glossyn/query/OperatorKind;)Z"⟩ : MethodName)) (z := (⟨"com/example/glossyn/glossyn/query/OperatorKind", "admits", "(Lcom/example/glossyn/glossyn/query/OperatorKind;)Z"⟩ : MethodName)) (W := 0) (a := w2) (argsL := [(.ref w2)]) (rest := []) hown (hw _ (List.mem_of_getElem? (i := 9) rfl)) (hw _ (List.mem_of_getElem? (i := 10) rfl)) (notFace_of_selects (args := #[]) (mvT hZ (hw _ (List.mem_of_getElem? (i := 12) rfl)))) (hw _ (List.mem_of_getElem? (i := 12) rfl)) (hw _ (List.mem_of_getElem? (i := 11) rfl)) (by decide) (own_bk (rm_adm2 l Z a0 hw w2 w2 w1 w2 h0 n0 A2 B2 O0 S1 S2) hZ (hw _ (List.mem_of_getElem? (i := 13) rfl)) (hw _ (List.mem_of_getElem? (i := 5) rfl)) (by decide) (by decide)) e32 A2 (g := (mkF m 62 #[.val (.int p1), .val (.int p2), .val (.int (2 : Int32)), .val (.int (2 : Int32)), .val (.ref w2), .val (.ref w2), .val (.int (0 : Int32))] [(.ref w2), (.ref w2)])) rfl (by rw [hml]; rfl) (lenOf pd_1 rfl) rfl (by show 2 * 0 + _ ≤ _; exact Nat.le_of_eq rfl) (hb hby at_62) (by decide) (by decide) (fun v33 T33 h33 L33 X33 e33 q33 => ?_)
    obtain ⟨rfl, M33, s33⟩ := q33
    replace e33 : T33.heap = h0 := e33.trans s33
    have N33 := Fr.app N32 M33
    show own_Run p e below Φ (T33.setTop (mkF m 65 #[.val (.int p1), .val (.int p2), .val (.int (2 : Int32)), .val (.int (2 : Int32)), .val (.ref w2), .val (.ref w2), .val (.int (0 : Int32))] [(.int (0 : Int32))]))
    refine own_go (fun t k => XS.iload X33.here hx rfl (hb hby at_65) rfl  k) ?_
    refine own_go (fun t k => XS.icmpNo X33.here hx rfl (hb hby at_67) rfl (teq (rfl : (0 : Int32) = (0 : Int32))).2 k) ?_
    refine own_go (fun t k => XS.iconst X33.here hx rfl (hb hby at_70) k) ?_
    refine own_go (fun t k => XS.goto X33.here hx rfl (pc0 := 71) (pc' := 75) rfl (hb hby at_71) (by decide) (by decide) k) ?_
    subst hΦ
    exact own_retN X33 hx (t := .boolean) Bd.returns (by simp) hlk (hb hby at_75) e33 ⟨rfl, N33⟩ (by decide) (by decide)
  · rw [e1, e2]
    show own_Run p e below Φ (s₁.setTop (mkF m 8 #[.val (.int p1), .val (.int p2), .val (.int (2 : Int32)), .val (.int (3 : Int32)), .unset, .unset, .unset] []))
    refine own_go (fun t k => XS.iloadN X0.here hx rfl (hb hby at_8) rfl  k) ?_
    show own_Run p e below Φ (s₁.setTop (mkF m 9 #[.val (.int p1), .val (.int p2), .val (.int (2 : Int32)), .val (.int (3 : Int32)), .unset, .unset, .unset] [(.int (2 : Int32))]))
    refine own_callS X0 hx hZ (y := (⟨"com/example/glossyn/glossyn/query/OperatorKindAdmitsPinLaw", "pick", "(I)Lcom/example/glossyn/glossyn/query/OperatorKind;"⟩ : MethodName)) (W := 0) (argsL := [(.int (2 : Int32))]) (rest := []) hown (hw _ (List.mem_of_getElem? (i := 0) rfl)) (hw _ (List.mem_of_getElem? (i := 1) rfl)) (hw _ (List.mem_of_getElem? (i := 2) rfl)) (hw _ (List.mem_of_getElem? (i := 3) rfl)) (by decide) (own_bk (rm_pick l Z a0 hw (2 : Int32) w0 w1 w2 w3 h0 n0 O0 S0 S1 S2 S3) hZ (hw _ (List.mem_of_getElem? (i := 3) rfl)) (hw _ (List.mem_of_getElem? (i := 2) rfl)) (by decide) (by decide)) e0 (g := (mkF m 9 #[.val (.int p1), .val (.int p2), .val (.int (2 : Int32)), .val (.int (3 : Int32)), .unset, .unset, .unset] [(.int (2 : Int32))])) rfl (by rw [hml]; rfl) (lenOf pd_0 rfl) rfl (by show 2 * 0 + _ ≤ _; exact Nat.le_of_eq rfl) (hb hby at_9) (by decide) (by decide) (fun v34 T34 h34 L34 X34 e34 q34 => ?_)
    obtain ⟨rfl, M34, s34⟩ := q34
    replace e34 : T34.heap = h0 := e34.trans s34
    have N34 := Fr.app N0 M34
    refine own_go (fun t k => XS.astore X34.here hx rfl (hb hby at_12) rfl rfl (l' := #[.val (.int p1), .val (.int p2), .val (.int (2 : Int32)), .val (.int (3 : Int32)), .val (.ref w2), .unset, .unset]) rfl k) ?_
    refine own_go (fun t k => XS.iloadN X34.here hx rfl (hb hby at_14) rfl  k) ?_
    refine own_callS X34 hx hZ (y := (⟨"com/example/glossyn/glossyn/query/OperatorKindAdmitsPinLaw", "pick", "(I)Lcom/example/glossyn/glossyn/query/OperatorKind;"⟩ : MethodName)) (W := 0) (argsL := [(.int (3 : Int32))]) (rest := []) hown (hw _ (List.mem_of_getElem? (i := 0) rfl)) (hw _ (List.mem_of_getElem? (i := 1) rfl)) (hw _ (List.mem_of_getElem? (i := 2) rfl)) (hw _ (List.mem_of_getElem? (i := 3) rfl)) (by decide) (own_bk (rm_pick l Z a0 hw (3 : Int32) w0 w1 w2 w3 h0 n0 O0 S0 S1 S2 S3) hZ (hw _ (List.mem_of_getElem? (i := 3) rfl)) (hw _ (List.mem_of_getElem? (i := 2) rfl)) (by decide) (by decide)) e34 (g := (mkF m 15 #[.val (.int p1), .val (.int p2), .val (.int (2 : Int32)), .val (.int (3 : Int32)), .val (.ref w2), .unset, .unset] [(.int (3 : Int32))])) rfl (by rw [hml]; rfl) (lenOf pd_0 rfl) rfl (by show 2 * 0 + _ ≤ _; exact Nat.le_of_eq rfl) (hb hby at_15) (by decide) (by decide) (fun v35 T35 h35 L35 X35 e35 q35 => ?_)
    obtain ⟨rfl, M35, s35⟩ := q35
    replace e35 : T35.heap = h0 := e35.trans s35
    have N35 := Fr.app N34 M35
    refine own_go (fun t k => XS.astore X35.here hx rfl (hb hby at_18) rfl rfl (l' := #[.val (.int p1), .val (.int p2), .val (.int (2 : Int32)), .val (.int (3 : Int32)), .val (.ref w2), .val (.ref w3), .unset]) rfl k) ?_
    show own_Run p e below Φ (T35.setTop (mkF m 20 #[.val (.int p1), .val (.int p2), .val (.int (2 : Int32)), .val (.int (3 : Int32)), .val (.ref w2), .val (.ref w3), .unset] []))
    refine own_go (fun t k => XS.iloadN X35.here hx rfl (hb hby at_20) rfl  k) ?_
    refine own_go (fun t k => XS.ifYes X35.here hx rfl (pc0 := 21) (pc' := 30) rfl (hb hby at_21) rfl ((if0 _ _).trans (feq (by decide : ¬ ((2 : Int32) = (0 : Int32)))).2) (by decide) (by decide) k) ?_
    refine own_go (fun t k => XS.iloadN X35.here hx rfl (hb hby at_30) rfl  k) ?_
    refine own_go (fun t k => XS.iconst X35.here hx rfl (hb hby at_31) k) ?_
    refine own_go (fun t k => XS.icmpNo X35.here hx rfl (hb hby at_32) rfl (teq (rfl : (2 : Int32) = (2 : Int32))).2 k) ?_
    show own_Run p e below Φ (T35.setTop (mkF m 35 #[.val (.int p1), .val (.int p2), .val (.int (2 : Int32)), .val (.int (3 : Int32)), .val (.ref w2), .val (.ref w3), .unset] []))
    refine own_go (fun t k => XS.iconst X35.here hx rfl (hb hby at_35) k) ?_
    refine own_go (fun t k => XS.istore X35.here hx rfl (hb hby at_36) rfl (l' := #[.val (.int p1), .val (.int p2), .val (.int (2 : Int32)), .val (.int (3 : Int32)), .val (.ref w2), .val (.ref w3), .val (.int (0 : Int32))]) rfl k) ?_
    refine own_go (fun t k => XS.goto X35.here hx rfl (pc0 := 38) (pc' := 58) rfl (hb hby at_38) (by decide) (by decide) k) ?_
    refine own_go (fun t k => XS.aload X35.here hx rfl (hb hby at_58) rfl rfl  k) ?_
    refine own_go (fun t k => XS.aload X35.here hx rfl (hb hby at_60) rfl rfl  k) ?_
    show own_Run p e below Φ (T35.setTop (mkF m 62 #[.val (.int p1), .val (.int p2), .val (.int (2 : Int32)), .val (.int (3 : Int32)), .val (.ref w2), .val (.ref w3), .val (.int (0 : Int32))] [(.ref w3), (.ref w2)]))
    refine own_callV X35 hx hZ (y := (⟨"com/example/glossyn/glossyn/query/OperatorKind", "admits", "(Lcom/example/glossyn/glossyn/query/OperatorKind;)Z"⟩ : MethodName)) (z := (⟨"com/example/glossyn/glossyn/query/OperatorKind", "admits", "(Lcom/example/glossyn/glossyn/query/OperatorKind;)Z"⟩ : MethodName)) (W := 0) (a := w2) (argsL := [(.ref w3)]) (rest := []) hown (hw _ (List.mem_of_getElem? (i := 9) rfl)) (hw _ (List.mem_of_getElem? (i := 10) rfl)) (notFace_of_selects (args := #[]) (mvT hZ (hw _ (List.mem_of_getElem? (i := 12) rfl)))) (hw _ (List.mem_of_getElem? (i := 12) rfl)) (hw _ (List.mem_of_getElem? (i := 11) rfl)) (by decide) (own_bk (rm_adm2 l Z a0 hw w2 w3 w1 w2 h0 n0 A2 B2 O0 S1 S2) hZ (hw _ (List.mem_of_getElem? (i := 13) rfl)) (hw _ (List.mem_of_getElem? (i := 5) rfl)) (by decide) (by decide)) e35 A2 (g := (mkF m 62 #[.val (.int p1), .val (.int p2), .val (.int (2 : Int32)), .val (.int (3 : Int32)), .val (.ref w2), .val (.ref w3), .val (.int (0 : Int32))] [(.ref w3), (.ref w2)])) rfl (by rw [hml]; rfl) (lenOf pd_1 rfl) rfl (by show 2 * 0 + _ ≤ _; exact Nat.le_of_eq rfl) (hb hby at_62) (by decide) (by decide) (fun v36 T36 h36 L36 X36 e36 q36 => ?_)
    obtain ⟨rfl, M36, s36⟩ := q36
    replace e36 : T36.heap = h0 := e36.trans s36
    have N36 := Fr.app N35 M36
    show own_Run p e below Φ (T36.setTop (mkF m 65 #[.val (.int p1), .val (.int p2), .val (.int (2 : Int32)), .val (.int (3 : Int32)), .val (.ref w2), .val (.ref w3), .val (.int (0 : Int32))] [(.int (0 : Int32))]))
    refine own_go (fun t k => XS.iload X36.here hx rfl (hb hby at_65) rfl  k) ?_
    refine own_go (fun t k => XS.icmpNo X36.here hx rfl (hb hby at_67) rfl (teq (rfl : (0 : Int32) = (0 : Int32))).2 k) ?_
    refine own_go (fun t k => XS.iconst X36.here hx rfl (hb hby at_70) k) ?_
    refine own_go (fun t k => XS.goto X36.here hx rfl (pc0 := 71) (pc' := 75) rfl (hb hby at_71) (by decide) (by decide) k) ?_
    subst hΦ
    exact own_retN X36 hx (t := .boolean) Bd.returns (by simp) hlk (hb hby at_75) e36 ⟨rfl, N36⟩ (by decide) (by decide)
  · rw [e1, e2]
    show own_Run p e below Φ (s₁.setTop (mkF m 8 #[.val (.int p1), .val (.int p2), .val (.int (3 : Int32)), .val (.int (0 : Int32)), .unset, .unset, .unset] []))
    refine own_go (fun t k => XS.iloadN X0.here hx rfl (hb hby at_8) rfl  k) ?_
    show own_Run p e below Φ (s₁.setTop (mkF m 9 #[.val (.int p1), .val (.int p2), .val (.int (3 : Int32)), .val (.int (0 : Int32)), .unset, .unset, .unset] [(.int (3 : Int32))]))
    refine own_callS X0 hx hZ (y := (⟨"com/example/glossyn/glossyn/query/OperatorKindAdmitsPinLaw", "pick", "(I)Lcom/example/glossyn/glossyn/query/OperatorKind;"⟩ : MethodName)) (W := 0) (argsL := [(.int (3 : Int32))]) (rest := []) hown (hw _ (List.mem_of_getElem? (i := 0) rfl)) (hw _ (List.mem_of_getElem? (i := 1) rfl)) (hw _ (List.mem_of_getElem? (i := 2) rfl)) (hw _ (List.mem_of_getElem? (i := 3) rfl)) (by decide) (own_bk (rm_pick l Z a0 hw (3 : Int32) w0 w1 w2 w3 h0 n0 O0 S0 S1 S2 S3) hZ (hw _ (List.mem_of_getElem? (i := 3) rfl)) (hw _ (List.mem_of_getElem? (i := 2) rfl)) (by decide) (by decide)) e0 (g := (mkF m 9 #[.val (.int p1), .val (.int p2), .val (.int (3 : Int32)), .val (.int (0 : Int32)), .unset, .unset, .unset] [(.int (3 : Int32))])) rfl (by rw [hml]; rfl) (lenOf pd_0 rfl) rfl (by show 2 * 0 + _ ≤ _; exact Nat.le_of_eq rfl) (hb hby at_9) (by decide) (by decide) (fun v37 T37 h37 L37 X37 e37 q37 => ?_)
    obtain ⟨rfl, M37, s37⟩ := q37
    replace e37 : T37.heap = h0 := e37.trans s37
    have N37 := Fr.app N0 M37
    refine own_go (fun t k => XS.astore X37.here hx rfl (hb hby at_12) rfl rfl (l' := #[.val (.int p1), .val (.int p2), .val (.int (3 : Int32)), .val (.int (0 : Int32)), .val (.ref w3), .unset, .unset]) rfl k) ?_
    refine own_go (fun t k => XS.iloadN X37.here hx rfl (hb hby at_14) rfl  k) ?_
    refine own_callS X37 hx hZ (y := (⟨"com/example/glossyn/glossyn/query/OperatorKindAdmitsPinLaw", "pick", "(I)Lcom/example/glossyn/glossyn/query/OperatorKind;"⟩ : MethodName)) (W := 0) (argsL := [(.int (0 : Int32))]) (rest := []) hown (hw _ (List.mem_of_getElem? (i := 0) rfl)) (hw _ (List.mem_of_getElem? (i := 1) rfl)) (hw _ (List.mem_of_getElem? (i := 2) rfl)) (hw _ (List.mem_of_getElem? (i := 3) rfl)) (by decide) (own_bk (rm_pick l Z a0 hw (0 : Int32) w0 w1 w2 w3 h0 n0 O0 S0 S1 S2 S3) hZ (hw _ (List.mem_of_getElem? (i := 3) rfl)) (hw _ (List.mem_of_getElem? (i := 2) rfl)) (by decide) (by decide)) e37 (g := (mkF m 15 #[.val (.int p1), .val (.int p2), .val (.int (3 : Int32)), .val (.int (0 : Int32)), .val (.ref w3), .unset, .unset] [(.int (0 : Int32))])) rfl (by rw [hml]; rfl) (lenOf pd_0 rfl) rfl (by show 2 * 0 + _ ≤ _; exact Nat.le_of_eq rfl) (hb hby at_15) (by decide) (by decide) (fun v38 T38 h38 L38 X38 e38 q38 => ?_)
    obtain ⟨rfl, M38, s38⟩ := q38
    replace e38 : T38.heap = h0 := e38.trans s38
    have N38 := Fr.app N37 M38
    refine own_go (fun t k => XS.astore X38.here hx rfl (hb hby at_18) rfl rfl (l' := #[.val (.int p1), .val (.int p2), .val (.int (3 : Int32)), .val (.int (0 : Int32)), .val (.ref w3), .val (.ref w0), .unset]) rfl k) ?_
    show own_Run p e below Φ (T38.setTop (mkF m 20 #[.val (.int p1), .val (.int p2), .val (.int (3 : Int32)), .val (.int (0 : Int32)), .val (.ref w3), .val (.ref w0), .unset] []))
    refine own_go (fun t k => XS.iloadN X38.here hx rfl (hb hby at_20) rfl  k) ?_
    refine own_go (fun t k => XS.ifYes X38.here hx rfl (pc0 := 21) (pc' := 30) rfl (hb hby at_21) rfl ((if0 _ _).trans (feq (by decide : ¬ ((3 : Int32) = (0 : Int32)))).2) (by decide) (by decide) k) ?_
    refine own_go (fun t k => XS.iloadN X38.here hx rfl (hb hby at_30) rfl  k) ?_
    refine own_go (fun t k => XS.iconst X38.here hx rfl (hb hby at_31) k) ?_
    refine own_go (fun t k => XS.icmpYes X38.here hx rfl (pc0 := 32) (pc' := 41) rfl (hb hby at_32) rfl (feq (by decide : ¬ ((3 : Int32) = (2 : Int32)))).2 (by decide) (by decide) k) ?_
    show own_Run p e below Φ (T38.setTop (mkF m 41 #[.val (.int p1), .val (.int p2), .val (.int (3 : Int32)), .val (.int (0 : Int32)), .val (.ref w3), .val (.ref w0), .unset] []))
    refine own_go (fun t k => XS.iloadN X38.here hx rfl (hb hby at_41) rfl  k) ?_
    refine own_go (fun t k => XS.iconst X38.here hx rfl (hb hby at_42) k) ?_
    refine own_go (fun t k => XS.icmpNo X38.here hx rfl (hb hby at_43) rfl (feq (by decide : ¬ ((0 : Int32) = (1 : Int32)))).1 k) ?_
    refine own_go (fun t k => XS.iloadN X38.here hx rfl (hb hby at_46) rfl  k) ?_
    refine own_go (fun t k => XS.iconst X38.here hx rfl (hb hby at_47) k) ?_
    show own_Run p e below Φ (T38.setTop (mkF m 48 #[.val (.int p1), .val (.int p2), .val (.int (3 : Int32)), .val (.int (0 : Int32)), .val (.ref w3), .val (.ref w0), .unset] [(.int (2 : Int32)), (.int (0 : Int32))]))
    refine own_go (fun t k => XS.icmpYes X38.here hx rfl (pc0 := 48) (pc' := 55) rfl (hb hby at_48) rfl (feq (by decide : ¬ ((0 : Int32) = (2 : Int32)))).2 (by decide) (by decide) k) ?_
    refine own_go (fun t k => XS.iconst X38.here hx rfl (hb hby at_55) k) ?_
    refine own_go (fun t k => XS.istore X38.here hx rfl (hb hby at_56) rfl (l' := #[.val (.int p1), .val (.int p2), .val (.int (3 : Int32)), .val (.int (0 : Int32)), .val (.ref w3), .val (.ref w0), .val (.int (0 : Int32))]) rfl k) ?_
    refine own_go (fun t k => XS.aload X38.here hx rfl (hb hby at_58) rfl rfl  k) ?_
    refine own_go (fun t k => XS.aload X38.here hx rfl (hb hby at_60) rfl rfl  k) ?_
    show own_Run p e below Φ (T38.setTop (mkF m 62 #[.val (.int p1), .val (.int p2), .val (.int (3 : Int32)), .val (.int (0 : Int32)), .val (.ref w3), .val (.ref w0), .val (.int (0 : Int32))] [(.ref w0), (.ref w3)]))
    refine own_callV X38 hx hZ (y := (⟨"com/example/glossyn/glossyn/query/OperatorKind", "admits", "(Lcom/example/glossyn/glossyn/query/OperatorKind;)Z"⟩ : MethodName)) (z := (⟨"com/example/glossyn/glossyn/query/OperatorKind", "admits", "(Lcom/example/glossyn/glossyn/query/OperatorKind;)Z"⟩ : MethodName)) (W := 0) (a := w3) (argsL := [(.ref w0)]) (rest := []) hown (hw _ (List.mem_of_getElem? (i := 9) rfl)) (hw _ (List.mem_of_getElem? (i := 10) rfl)) (notFace_of_selects (args := #[]) (mvT hZ (hw _ (List.mem_of_getElem? (i := 12) rfl)))) (hw _ (List.mem_of_getElem? (i := 12) rfl)) (hw _ (List.mem_of_getElem? (i := 11) rfl)) (by decide) (own_bk (rm_adm3 l Z a0 hw w3 w0 w1 w2 h0 n0 A3 B3 O0 S1 S2) hZ (hw _ (List.mem_of_getElem? (i := 13) rfl)) (hw _ (List.mem_of_getElem? (i := 5) rfl)) (by decide) (by decide)) e38 A3 (g := (mkF m 62 #[.val (.int p1), .val (.int p2), .val (.int (3 : Int32)), .val (.int (0 : Int32)), .val (.ref w3), .val (.ref w0), .val (.int (0 : Int32))] [(.ref w0), (.ref w3)])) rfl (by rw [hml]; rfl) (lenOf pd_1 rfl) rfl (by show 2 * 0 + _ ≤ _; exact Nat.le_of_eq rfl) (hb hby at_62) (by decide) (by decide) (fun v39 T39 h39 L39 X39 e39 q39 => ?_)
    obtain ⟨rfl, M39, s39⟩ := q39
    replace e39 : T39.heap = h0 := e39.trans s39
    have N39 := Fr.app N38 M39
    show own_Run p e below Φ (T39.setTop (mkF m 65 #[.val (.int p1), .val (.int p2), .val (.int (3 : Int32)), .val (.int (0 : Int32)), .val (.ref w3), .val (.ref w0), .val (.int (0 : Int32))] [(.int (own_in w0 w1 w2))]))
    rw [show (own_in w0 w1 w2) = (0 : Int32) from (by unfold own_in; rw [if_neg ne01, if_neg ne02])]
    show own_Run p e below Φ (T39.setTop (mkF m 65 #[.val (.int p1), .val (.int p2), .val (.int (3 : Int32)), .val (.int (0 : Int32)), .val (.ref w3), .val (.ref w0), .val (.int (0 : Int32))] [(.int (0 : Int32))]))
    refine own_go (fun t k => XS.iload X39.here hx rfl (hb hby at_65) rfl  k) ?_
    refine own_go (fun t k => XS.icmpNo X39.here hx rfl (hb hby at_67) rfl (teq (rfl : (0 : Int32) = (0 : Int32))).2 k) ?_
    refine own_go (fun t k => XS.iconst X39.here hx rfl (hb hby at_70) k) ?_
    refine own_go (fun t k => XS.goto X39.here hx rfl (pc0 := 71) (pc' := 75) rfl (hb hby at_71) (by decide) (by decide) k) ?_
    subst hΦ
    exact own_retN X39 hx (t := .boolean) Bd.returns (by simp) hlk (hb hby at_75) e39 ⟨rfl, N39⟩ (by decide) (by decide)
  · rw [e1, e2]
    show own_Run p e below Φ (s₁.setTop (mkF m 8 #[.val (.int p1), .val (.int p2), .val (.int (3 : Int32)), .val (.int (1 : Int32)), .unset, .unset, .unset] []))
    refine own_go (fun t k => XS.iloadN X0.here hx rfl (hb hby at_8) rfl  k) ?_
    show own_Run p e below Φ (s₁.setTop (mkF m 9 #[.val (.int p1), .val (.int p2), .val (.int (3 : Int32)), .val (.int (1 : Int32)), .unset, .unset, .unset] [(.int (3 : Int32))]))
    refine own_callS X0 hx hZ (y := (⟨"com/example/glossyn/glossyn/query/OperatorKindAdmitsPinLaw", "pick", "(I)Lcom/example/glossyn/glossyn/query/OperatorKind;"⟩ : MethodName)) (W := 0) (argsL := [(.int (3 : Int32))]) (rest := []) hown (hw _ (List.mem_of_getElem? (i := 0) rfl)) (hw _ (List.mem_of_getElem? (i := 1) rfl)) (hw _ (List.mem_of_getElem? (i := 2) rfl)) (hw _ (List.mem_of_getElem? (i := 3) rfl)) (by decide) (own_bk (rm_pick l Z a0 hw (3 : Int32) w0 w1 w2 w3 h0 n0 O0 S0 S1 S2 S3) hZ (hw _ (List.mem_of_getElem? (i := 3) rfl)) (hw _ (List.mem_of_getElem? (i := 2) rfl)) (by decide) (by decide)) e0 (g := (mkF m 9 #[.val (.int p1), .val (.int p2), .val (.int (3 : Int32)), .val (.int (1 : Int32)), .unset, .unset, .unset] [(.int (3 : Int32))])) rfl (by rw [hml]; rfl) (lenOf pd_0 rfl) rfl (by show 2 * 0 + _ ≤ _; exact Nat.le_of_eq rfl) (hb hby at_9) (by decide) (by decide) (fun v40 T40 h40 L40 X40 e40 q40 => ?_)
    obtain ⟨rfl, M40, s40⟩ := q40
    replace e40 : T40.heap = h0 := e40.trans s40
    have N40 := Fr.app N0 M40
    refine own_go (fun t k => XS.astore X40.here hx rfl (hb hby at_12) rfl rfl (l' := #[.val (.int p1), .val (.int p2), .val (.int (3 : Int32)), .val (.int (1 : Int32)), .val (.ref w3), .unset, .unset]) rfl k) ?_
    refine own_go (fun t k => XS.iloadN X40.here hx rfl (hb hby at_14) rfl  k) ?_
    refine own_callS X40 hx hZ (y := (⟨"com/example/glossyn/glossyn/query/OperatorKindAdmitsPinLaw", "pick", "(I)Lcom/example/glossyn/glossyn/query/OperatorKind;"⟩ : MethodName)) (W := 0) (argsL := [(.int (1 : Int32))]) (rest := []) hown (hw _ (List.mem_of_getElem? (i := 0) rfl)) (hw _ (List.mem_of_getElem? (i := 1) rfl)) (hw _ (List.mem_of_getElem? (i := 2) rfl)) (hw _ (List.mem_of_getElem? (i := 3) rfl)) (by decide) (own_bk (rm_pick l Z a0 hw (1 : Int32) w0 w1 w2 w3 h0 n0 O0 S0 S1 S2 S3) hZ (hw _ (List.mem_of_getElem? (i := 3) rfl)) (hw _ (List.mem_of_getElem? (i := 2) rfl)) (by decide) (by decide)) e40 (g := (mkF m 15 #[.val (.int p1), .val (.int p2), .val (.int (3 : Int32)), .val (.int (1 : Int32)), .val (.ref w3), .unset, .unset] [(.int (1 : Int32))])) rfl (by rw [hml]; rfl) (lenOf pd_0 rfl) rfl (by show 2 * 0 + _ ≤ _; exact Nat.le_of_eq rfl) (hb hby at_15) (by decide) (by decide) (fun v41 T41 h41 L41 X41 e41 q41 => ?_)
    obtain ⟨rfl, M41, s41⟩ := q41
    replace e41 : T41.heap = h0 := e41.trans s41
    have N41 := Fr.app N40 M41
    refine own_go (fun t k => XS.astore X41.here hx rfl (hb hby at_18) rfl rfl (l' := #[.val (.int p1), .val (.int p2), .val (.int (3 : Int32)), .val (.int (1 : Int32)), .val (.ref w3), .val (.ref w1), .unset]) rfl k) ?_
    show own_Run p e below Φ (T41.setTop (mkF m 20 #[.val (.int p1), .val (.int p2), .val (.int (3 : Int32)), .val (.int (1 : Int32)), .val (.ref w3), .val (.ref w1), .unset] []))
    refine own_go (fun t k => XS.iloadN X41.here hx rfl (hb hby at_20) rfl  k) ?_
    refine own_go (fun t k => XS.ifYes X41.here hx rfl (pc0 := 21) (pc' := 30) rfl (hb hby at_21) rfl ((if0 _ _).trans (feq (by decide : ¬ ((3 : Int32) = (0 : Int32)))).2) (by decide) (by decide) k) ?_
    refine own_go (fun t k => XS.iloadN X41.here hx rfl (hb hby at_30) rfl  k) ?_
    refine own_go (fun t k => XS.iconst X41.here hx rfl (hb hby at_31) k) ?_
    refine own_go (fun t k => XS.icmpYes X41.here hx rfl (pc0 := 32) (pc' := 41) rfl (hb hby at_32) rfl (feq (by decide : ¬ ((3 : Int32) = (2 : Int32)))).2 (by decide) (by decide) k) ?_
    show own_Run p e below Φ (T41.setTop (mkF m 41 #[.val (.int p1), .val (.int p2), .val (.int (3 : Int32)), .val (.int (1 : Int32)), .val (.ref w3), .val (.ref w1), .unset] []))
    refine own_go (fun t k => XS.iloadN X41.here hx rfl (hb hby at_41) rfl  k) ?_
    refine own_go (fun t k => XS.iconst X41.here hx rfl (hb hby at_42) k) ?_
    refine own_go (fun t k => XS.icmpYes X41.here hx rfl (pc0 := 43) (pc' := 51) rfl (hb hby at_43) rfl (teq (rfl : (1 : Int32) = (1 : Int32))).1 (by decide) (by decide) k) ?_
    refine own_go (fun t k => XS.iconst X41.here hx rfl (hb hby at_51) k) ?_
    refine own_go (fun t k => XS.goto X41.here hx rfl (pc0 := 52) (pc' := 56) rfl (hb hby at_52) (by decide) (by decide) k) ?_
    show own_Run p e below Φ (T41.setTop (mkF m 56 #[.val (.int p1), .val (.int p2), .val (.int (3 : Int32)), .val (.int (1 : Int32)), .val (.ref w3), .val (.ref w1), .unset] [(.int (1 : Int32))]))
    refine own_go (fun t k => XS.istore X41.here hx rfl (hb hby at_56) rfl (l' := #[.val (.int p1), .val (.int p2), .val (.int (3 : Int32)), .val (.int (1 : Int32)), .val (.ref w3), .val (.ref w1), .val (.int (1 : Int32))]) rfl k) ?_
    refine own_go (fun t k => XS.aload X41.here hx rfl (hb hby at_58) rfl rfl  k) ?_
    refine own_go (fun t k => XS.aload X41.here hx rfl (hb hby at_60) rfl rfl  k) ?_
    refine own_callV X41 hx hZ (y := (⟨"com/example/glossyn/glossyn/query/OperatorKind", "admits", "(Lcom/example/glossyn/glossyn/query/OperatorKind;)Z"⟩ : MethodName)) (z := (⟨"com/example/glossyn/glossyn/query/OperatorKind", "admits", "(Lcom/example/glossyn/glossyn/query/OperatorKind;)Z"⟩ : MethodName)) (W := 0) (a := w3) (argsL := [(.ref w1)]) (rest := []) hown (hw _ (List.mem_of_getElem? (i := 9) rfl)) (hw _ (List.mem_of_getElem? (i := 10) rfl)) (notFace_of_selects (args := #[]) (mvT hZ (hw _ (List.mem_of_getElem? (i := 12) rfl)))) (hw _ (List.mem_of_getElem? (i := 12) rfl)) (hw _ (List.mem_of_getElem? (i := 11) rfl)) (by decide) (own_bk (rm_adm3 l Z a0 hw w3 w1 w1 w2 h0 n0 A3 B3 O0 S1 S2) hZ (hw _ (List.mem_of_getElem? (i := 13) rfl)) (hw _ (List.mem_of_getElem? (i := 5) rfl)) (by decide) (by decide)) e41 A3 (g := (mkF m 62 #[.val (.int p1), .val (.int p2), .val (.int (3 : Int32)), .val (.int (1 : Int32)), .val (.ref w3), .val (.ref w1), .val (.int (1 : Int32))] [(.ref w1), (.ref w3)])) rfl (by rw [hml]; rfl) (lenOf pd_1 rfl) rfl (by show 2 * 0 + _ ≤ _; exact Nat.le_of_eq rfl) (hb hby at_62) (by decide) (by decide) (fun v42 T42 h42 L42 X42 e42 q42 => ?_)
    obtain ⟨rfl, M42, s42⟩ := q42
    replace e42 : T42.heap = h0 := e42.trans s42
    have N42 := Fr.app N41 M42
    show own_Run p e below Φ (T42.setTop (mkF m 65 #[.val (.int p1), .val (.int p2), .val (.int (3 : Int32)), .val (.int (1 : Int32)), .val (.ref w3), .val (.ref w1), .val (.int (1 : Int32))] [(.int (own_in w1 w1 w2))]))
    rw [show (own_in w1 w1 w2) = (1 : Int32) from (by simp [own_in])]
    show own_Run p e below Φ (T42.setTop (mkF m 65 #[.val (.int p1), .val (.int p2), .val (.int (3 : Int32)), .val (.int (1 : Int32)), .val (.ref w3), .val (.ref w1), .val (.int (1 : Int32))] [(.int (1 : Int32))]))
    refine own_go (fun t k => XS.iload X42.here hx rfl (hb hby at_65) rfl  k) ?_
    refine own_go (fun t k => XS.icmpNo X42.here hx rfl (hb hby at_67) rfl (teq (rfl : (1 : Int32) = (1 : Int32))).2 k) ?_
    refine own_go (fun t k => XS.iconst X42.here hx rfl (hb hby at_70) k) ?_
    refine own_go (fun t k => XS.goto X42.here hx rfl (pc0 := 71) (pc' := 75) rfl (hb hby at_71) (by decide) (by decide) k) ?_
    subst hΦ
    exact own_retN X42 hx (t := .boolean) Bd.returns (by simp) hlk (hb hby at_75) e42 ⟨rfl, N42⟩ (by decide) (by decide)
  · rw [e1, e2]
    show own_Run p e below Φ (s₁.setTop (mkF m 8 #[.val (.int p1), .val (.int p2), .val (.int (3 : Int32)), .val (.int (2 : Int32)), .unset, .unset, .unset] []))
    refine own_go (fun t k => XS.iloadN X0.here hx rfl (hb hby at_8) rfl  k) ?_
    show own_Run p e below Φ (s₁.setTop (mkF m 9 #[.val (.int p1), .val (.int p2), .val (.int (3 : Int32)), .val (.int (2 : Int32)), .unset, .unset, .unset] [(.int (3 : Int32))]))
    refine own_callS X0 hx hZ (y := (⟨"com/example/glossyn/glossyn/query/OperatorKindAdmitsPinLaw", "pick", "(I)Lcom/example/glossyn/glossyn/query/OperatorKind;"⟩ : MethodName)) (W := 0) (argsL := [(.int (3 : Int32))]) (rest := []) hown (hw _ (List.mem_of_getElem? (i := 0) rfl)) (hw _ (List.mem_of_getElem? (i := 1) rfl)) (hw _ (List.mem_of_getElem? (i := 2) rfl)) (hw _ (List.mem_of_getElem? (i := 3) rfl)) (by decide) (own_bk (rm_pick l Z a0 hw (3 : Int32) w0 w1 w2 w3 h0 n0 O0 S0 S1 S2 S3) hZ (hw _ (List.mem_of_getElem? (i := 3) rfl)) (hw _ (List.mem_of_getElem? (i := 2) rfl)) (by decide) (by decide)) e0 (g := (mkF m 9 #[.val (.int p1), .val (.int p2), .val (.int (3 : Int32)), .val (.int (2 : Int32)), .unset, .unset, .unset] [(.int (3 : Int32))])) rfl (by rw [hml]; rfl) (lenOf pd_0 rfl) rfl (by show 2 * 0 + _ ≤ _; exact Nat.le_of_eq rfl) (hb hby at_9) (by decide) (by decide) (fun v43 T43 h43 L43 X43 e43 q43 => ?_)
    obtain ⟨rfl, M43, s43⟩ := q43
    replace e43 : T43.heap = h0 := e43.trans s43
    have N43 := Fr.app N0 M43
    refine own_go (fun t k => XS.astore X43.here hx rfl (hb hby at_12) rfl rfl (l' := #[.val (.int p1), .val (.int p2), .val (.int (3 : Int32)), .val (.int (2 : Int32)), .val (.ref w3), .unset, .unset]) rfl k) ?_
    refine own_go (fun t k => XS.iloadN X43.here hx rfl (hb hby at_14) rfl  k) ?_
    refine own_callS X43 hx hZ (y := (⟨"com/example/glossyn/glossyn/query/OperatorKindAdmitsPinLaw", "pick", "(I)Lcom/example/glossyn/glossyn/query/OperatorKind;"⟩ : MethodName)) (W := 0) (argsL := [(.int (2 : Int32))]) (rest := []) hown (hw _ (List.mem_of_getElem? (i := 0) rfl)) (hw _ (List.mem_of_getElem? (i := 1) rfl)) (hw _ (List.mem_of_getElem? (i := 2) rfl)) (hw _ (List.mem_of_getElem? (i := 3) rfl)) (by decide) (own_bk (rm_pick l Z a0 hw (2 : Int32) w0 w1 w2 w3 h0 n0 O0 S0 S1 S2 S3) hZ (hw _ (List.mem_of_getElem? (i := 3) rfl)) (hw _ (List.mem_of_getElem? (i := 2) rfl)) (by decide) (by decide)) e43 (g := (mkF m 15 #[.val (.int p1), .val (.int p2), .val (.int (3 : Int32)), .val (.int (2 : Int32)), .val (.ref w3), .unset, .unset] [(.int (2 : Int32))])) rfl (by rw [hml]; rfl) (lenOf pd_0 rfl) rfl (by show 2 * 0 + _ ≤ _; exact Nat.le_of_eq rfl) (hb hby at_15) (by decide) (by decide) (fun v44 T44 h44 L44 X44 e44 q44 => ?_)
    obtain ⟨rfl, M44, s44⟩ := q44
    replace e44 : T44.heap = h0 := e44.trans s44
    have N44 := Fr.app N43 M44
    refine own_go (fun t k => XS.astore X44.here hx rfl (hb hby at_18) rfl rfl (l' := #[.val (.int p1), .val (.int p2), .val (.int (3 : Int32)), .val (.int (2 : Int32)), .val (.ref w3), .val (.ref w2), .unset]) rfl k) ?_
    show own_Run p e below Φ (T44.setTop (mkF m 20 #[.val (.int p1), .val (.int p2), .val (.int (3 : Int32)), .val (.int (2 : Int32)), .val (.ref w3), .val (.ref w2), .unset] []))
    refine own_go (fun t k => XS.iloadN X44.here hx rfl (hb hby at_20) rfl  k) ?_
    refine own_go (fun t k => XS.ifYes X44.here hx rfl (pc0 := 21) (pc' := 30) rfl (hb hby at_21) rfl ((if0 _ _).trans (feq (by decide : ¬ ((3 : Int32) = (0 : Int32)))).2) (by decide) (by decide) k) ?_
    refine own_go (fun t k => XS.iloadN X44.here hx rfl (hb hby at_30) rfl  k) ?_
    refine own_go (fun t k => XS.iconst X44.here hx rfl (hb hby at_31) k) ?_
    refine own_go (fun t k => XS.icmpYes X44.here hx rfl (pc0 := 32) (pc' := 41) rfl (hb hby at_32) rfl (feq (by decide : ¬ ((3 : Int32) = (2 : Int32)))).2 (by decide) (by decide) k) ?_
    show own_Run p e below Φ (T44.setTop (mkF m 41 #[.val (.int p1), .val (.int p2), .val (.int (3 : Int32)), .val (.int (2 : Int32)), .val (.ref w3), .val (.ref w2), .unset] []))
    refine own_go (fun t k => XS.iloadN X44.here hx rfl (hb hby at_41) rfl  k) ?_
    refine own_go (fun t k => XS.iconst X44.here hx rfl (hb hby at_42) k) ?_
    refine own_go (fun t k => XS.icmpNo X44.here hx rfl (hb hby at_43) rfl (feq (by decide : ¬ ((2 : Int32) = (1 : Int32)))).1 k) ?_
    refine own_go (fun t k => XS.iloadN X44.here hx rfl (hb hby at_46) rfl  k) ?_
    refine own_go (fun t k => XS.iconst X44.here hx rfl (hb hby at_47) k) ?_
    show own_Run p e below Φ (T44.setTop (mkF m 48 #[.val (.int p1), .val (.int p2), .val (.int (3 : Int32)), .val (.int (2 : Int32)), .val (.ref w3), .val (.ref w2), .unset] [(.int (2 : Int32)), (.int (2 : Int32))]))
    refine own_go (fun t k => XS.icmpNo X44.here hx rfl (hb hby at_48) rfl (teq (rfl : (2 : Int32) = (2 : Int32))).2 k) ?_
    refine own_go (fun t k => XS.iconst X44.here hx rfl (hb hby at_51) k) ?_
    refine own_go (fun t k => XS.goto X44.here hx rfl (pc0 := 52) (pc' := 56) rfl (hb hby at_52) (by decide) (by decide) k) ?_
    refine own_go (fun t k => XS.istore X44.here hx rfl (hb hby at_56) rfl (l' := #[.val (.int p1), .val (.int p2), .val (.int (3 : Int32)), .val (.int (2 : Int32)), .val (.ref w3), .val (.ref w2), .val (.int (1 : Int32))]) rfl k) ?_
    refine own_go (fun t k => XS.aload X44.here hx rfl (hb hby at_58) rfl rfl  k) ?_
    show own_Run p e below Φ (T44.setTop (mkF m 60 #[.val (.int p1), .val (.int p2), .val (.int (3 : Int32)), .val (.int (2 : Int32)), .val (.ref w3), .val (.ref w2), .val (.int (1 : Int32))] [(.ref w3)]))
    refine own_go (fun t k => XS.aload X44.here hx rfl (hb hby at_60) rfl rfl  k) ?_
    refine own_callV X44 hx hZ (y := (⟨"com/example/glossyn/glossyn/query/OperatorKind", "admits", "(Lcom/example/glossyn/glossyn/query/OperatorKind;)Z"⟩ : MethodName)) (z := (⟨"com/example/glossyn/glossyn/query/OperatorKind", "admits", "(Lcom/example/glossyn/glossyn/query/OperatorKind;)Z"⟩ : MethodName)) (W := 0) (a := w3) (argsL := [(.ref w2)]) (rest := []) hown (hw _ (List.mem_of_getElem? (i := 9) rfl)) (hw _ (List.mem_of_getElem? (i := 10) rfl)) (notFace_of_selects (args := #[]) (mvT hZ (hw _ (List.mem_of_getElem? (i := 12) rfl)))) (hw _ (List.mem_of_getElem? (i := 12) rfl)) (hw _ (List.mem_of_getElem? (i := 11) rfl)) (by decide) (own_bk (rm_adm3 l Z a0 hw w3 w2 w1 w2 h0 n0 A3 B3 O0 S1 S2) hZ (hw _ (List.mem_of_getElem? (i := 13) rfl)) (hw _ (List.mem_of_getElem? (i := 5) rfl)) (by decide) (by decide)) e44 A3 (g := (mkF m 62 #[.val (.int p1), .val (.int p2), .val (.int (3 : Int32)), .val (.int (2 : Int32)), .val (.ref w3), .val (.ref w2), .val (.int (1 : Int32))] [(.ref w2), (.ref w3)])) rfl (by rw [hml]; rfl) (lenOf pd_1 rfl) rfl (by show 2 * 0 + _ ≤ _; exact Nat.le_of_eq rfl) (hb hby at_62) (by decide) (by decide) (fun v45 T45 h45 L45 X45 e45 q45 => ?_)
    obtain ⟨rfl, M45, s45⟩ := q45
    replace e45 : T45.heap = h0 := e45.trans s45
    have N45 := Fr.app N44 M45
    show own_Run p e below Φ (T45.setTop (mkF m 65 #[.val (.int p1), .val (.int p2), .val (.int (3 : Int32)), .val (.int (2 : Int32)), .val (.ref w3), .val (.ref w2), .val (.int (1 : Int32))] [(.int (own_in w2 w1 w2))]))
    rw [show (own_in w2 w1 w2) = (1 : Int32) from (by unfold own_in; rw [if_neg (Ne.symm ne12), if_pos rfl])]
    show own_Run p e below Φ (T45.setTop (mkF m 65 #[.val (.int p1), .val (.int p2), .val (.int (3 : Int32)), .val (.int (2 : Int32)), .val (.ref w3), .val (.ref w2), .val (.int (1 : Int32))] [(.int (1 : Int32))]))
    refine own_go (fun t k => XS.iload X45.here hx rfl (hb hby at_65) rfl  k) ?_
    refine own_go (fun t k => XS.icmpNo X45.here hx rfl (hb hby at_67) rfl (teq (rfl : (1 : Int32) = (1 : Int32))).2 k) ?_
    refine own_go (fun t k => XS.iconst X45.here hx rfl (hb hby at_70) k) ?_
    refine own_go (fun t k => XS.goto X45.here hx rfl (pc0 := 71) (pc' := 75) rfl (hb hby at_71) (by decide) (by decide) k) ?_
    subst hΦ
    exact own_retN X45 hx (t := .boolean) Bd.returns (by simp) hlk (hb hby at_75) e45 ⟨rfl, N45⟩ (by decide) (by decide)
  · rw [e1, e2]
    show own_Run p e below Φ (s₁.setTop (mkF m 8 #[.val (.int p1), .val (.int p2), .val (.int (3 : Int32)), .val (.int (3 : Int32)), .unset, .unset, .unset] []))
    refine own_go (fun t k => XS.iloadN X0.here hx rfl (hb hby at_8) rfl  k) ?_
    show own_Run p e below Φ (s₁.setTop (mkF m 9 #[.val (.int p1), .val (.int p2), .val (.int (3 : Int32)), .val (.int (3 : Int32)), .unset, .unset, .unset] [(.int (3 : Int32))]))
    refine own_callS X0 hx hZ (y := (⟨"com/example/glossyn/glossyn/query/OperatorKindAdmitsPinLaw", "pick", "(I)Lcom/example/glossyn/glossyn/query/OperatorKind;"⟩ : MethodName)) (W := 0) (argsL := [(.int (3 : Int32))]) (rest := []) hown (hw _ (List.mem_of_getElem? (i := 0) rfl)) (hw _ (List.mem_of_getElem? (i := 1) rfl)) (hw _ (List.mem_of_getElem? (i := 2) rfl)) (hw _ (List.mem_of_getElem? (i := 3) rfl)) (by decide) (own_bk (rm_pick l Z a0 hw (3 : Int32) w0 w1 w2 w3 h0 n0 O0 S0 S1 S2 S3) hZ (hw _ (List.mem_of_getElem? (i := 3) rfl)) (hw _ (List.mem_of_getElem? (i := 2) rfl)) (by decide) (by decide)) e0 (g := (mkF m 9 #[.val (.int p1), .val (.int p2), .val (.int (3 : Int32)), .val (.int (3 : Int32)), .unset, .unset, .unset] [(.int (3 : Int32))])) rfl (by rw [hml]; rfl) (lenOf pd_0 rfl) rfl (by show 2 * 0 + _ ≤ _; exact Nat.le_of_eq rfl) (hb hby at_9) (by decide) (by decide) (fun v46 T46 h46 L46 X46 e46 q46 => ?_)
    obtain ⟨rfl, M46, s46⟩ := q46
    replace e46 : T46.heap = h0 := e46.trans s46
    have N46 := Fr.app N0 M46
    refine own_go (fun t k => XS.astore X46.here hx rfl (hb hby at_12) rfl rfl (l' := #[.val (.int p1), .val (.int p2), .val (.int (3 : Int32)), .val (.int (3 : Int32)), .val (.ref w3), .unset, .unset]) rfl k) ?_
    refine own_go (fun t k => XS.iloadN X46.here hx rfl (hb hby at_14) rfl  k) ?_
    refine own_callS X46 hx hZ (y := (⟨"com/example/glossyn/glossyn/query/OperatorKindAdmitsPinLaw", "pick", "(I)Lcom/example/glossyn/glossyn/query/OperatorKind;"⟩ : MethodName)) (W := 0) (argsL := [(.int (3 : Int32))]) (rest := []) hown (hw _ (List.mem_of_getElem? (i := 0) rfl)) (hw _ (List.mem_of_getElem? (i := 1) rfl)) (hw _ (List.mem_of_getElem? (i := 2) rfl)) (hw _ (List.mem_of_getElem? (i := 3) rfl)) (by decide) (own_bk (rm_pick l Z a0 hw (3 : Int32) w0 w1 w2 w3 h0 n0 O0 S0 S1 S2 S3) hZ (hw _ (List.mem_of_getElem? (i := 3) rfl)) (hw _ (List.mem_of_getElem? (i := 2) rfl)) (by decide) (by decide)) e46 (g := (mkF m 15 #[.val (.int p1), .val (.int p2), .val (.int (3 : Int32)), .val (.int (3 : Int32)), .val (.ref w3), .unset, .unset] [(.int (3 : Int32))])) rfl (by rw [hml]; rfl) (lenOf pd_0 rfl) rfl (by show 2 * 0 + _ ≤ _; exact Nat.le_of_eq rfl) (hb hby at_15) (by decide) (by decide) (fun v47 T47 h47 L47 X47 e47 q47 => ?_)
    obtain ⟨rfl, M47, s47⟩ := q47
    replace e47 : T47.heap = h0 := e47.trans s47
    have N47 := Fr.app N46 M47
    refine own_go (fun t k => XS.astore X47.here hx rfl (hb hby at_18) rfl rfl (l' := #[.val (.int p1), .val (.int p2), .val (.int (3 : Int32)), .val (.int (3 : Int32)), .val (.ref w3), .val (.ref w3), .unset]) rfl k) ?_
    show own_Run p e below Φ (T47.setTop (mkF m 20 #[.val (.int p1), .val (.int p2), .val (.int (3 : Int32)), .val (.int (3 : Int32)), .val (.ref w3), .val (.ref w3), .unset] []))
    refine own_go (fun t k => XS.iloadN X47.here hx rfl (hb hby at_20) rfl  k) ?_
    refine own_go (fun t k => XS.ifYes X47.here hx rfl (pc0 := 21) (pc' := 30) rfl (hb hby at_21) rfl ((if0 _ _).trans (feq (by decide : ¬ ((3 : Int32) = (0 : Int32)))).2) (by decide) (by decide) k) ?_
    refine own_go (fun t k => XS.iloadN X47.here hx rfl (hb hby at_30) rfl  k) ?_
    refine own_go (fun t k => XS.iconst X47.here hx rfl (hb hby at_31) k) ?_
    refine own_go (fun t k => XS.icmpYes X47.here hx rfl (pc0 := 32) (pc' := 41) rfl (hb hby at_32) rfl (feq (by decide : ¬ ((3 : Int32) = (2 : Int32)))).2 (by decide) (by decide) k) ?_
    show own_Run p e below Φ (T47.setTop (mkF m 41 #[.val (.int p1), .val (.int p2), .val (.int (3 : Int32)), .val (.int (3 : Int32)), .val (.ref w3), .val (.ref w3), .unset] []))
    refine own_go (fun t k => XS.iloadN X47.here hx rfl (hb hby at_41) rfl  k) ?_
    refine own_go (fun t k => XS.iconst X47.here hx rfl (hb hby at_42) k) ?_
    refine own_go (fun t k => XS.icmpNo X47.here hx rfl (hb hby at_43) rfl (feq (by decide : ¬ ((3 : Int32) = (1 : Int32)))).1 k) ?_
    refine own_go (fun t k => XS.iloadN X47.here hx rfl (hb hby at_46) rfl  k) ?_
    refine own_go (fun t k => XS.iconst X47.here hx rfl (hb hby at_47) k) ?_
    show own_Run p e below Φ (T47.setTop (mkF m 48 #[.val (.int p1), .val (.int p2), .val (.int (3 : Int32)), .val (.int (3 : Int32)), .val (.ref w3), .val (.ref w3), .unset] [(.int (2 : Int32)), (.int (3 : Int32))]))
    refine own_go (fun t k => XS.icmpYes X47.here hx rfl (pc0 := 48) (pc' := 55) rfl (hb hby at_48) rfl (feq (by decide : ¬ ((3 : Int32) = (2 : Int32)))).2 (by decide) (by decide) k) ?_
    refine own_go (fun t k => XS.iconst X47.here hx rfl (hb hby at_55) k) ?_
    refine own_go (fun t k => XS.istore X47.here hx rfl (hb hby at_56) rfl (l' := #[.val (.int p1), .val (.int p2), .val (.int (3 : Int32)), .val (.int (3 : Int32)), .val (.ref w3), .val (.ref w3), .val (.int (0 : Int32))]) rfl k) ?_
    refine own_go (fun t k => XS.aload X47.here hx rfl (hb hby at_58) rfl rfl  k) ?_
    refine own_go (fun t k => XS.aload X47.here hx rfl (hb hby at_60) rfl rfl  k) ?_
    show own_Run p e below Φ (T47.setTop (mkF m 62 #[.val (.int p1), .val (.int p2), .val (.int (3 : Int32)), .val (.int (3 : Int32)), .val (.ref w3), .val (.ref w3), .val (.int (0 : Int32))] [(.ref w3), (.ref w3)]))
    refine own_callV X47 hx hZ (y := (⟨"com/example/glossyn/glossyn/query/OperatorKind", "admits", "(Lcom/example/glossyn/glossyn/query/OperatorKind;)Z"⟩ : MethodName)) (z := (⟨"com/example/glossyn/glossyn/query/OperatorKind", "admits", "(Lcom/example/glossyn/glossyn/query/OperatorKind;)Z"⟩ : MethodName)) (W := 0) (a := w3) (argsL := [(.ref w3)]) (rest := []) hown (hw _ (List.mem_of_getElem? (i := 9) rfl)) (hw _ (List.mem_of_getElem? (i := 10) rfl)) (notFace_of_selects (args := #[]) (mvT hZ (hw _ (List.mem_of_getElem? (i := 12) rfl)))) (hw _ (List.mem_of_getElem? (i := 12) rfl)) (hw _ (List.mem_of_getElem? (i := 11) rfl)) (by decide) (own_bk (rm_adm3 l Z a0 hw w3 w3 w1 w2 h0 n0 A3 B3 O0 S1 S2) hZ (hw _ (List.mem_of_getElem? (i := 13) rfl)) (hw _ (List.mem_of_getElem? (i := 5) rfl)) (by decide) (by decide)) e47 A3 (g := (mkF m 62 #[.val (.int p1), .val (.int p2), .val (.int (3 : Int32)), .val (.int (3 : Int32)), .val (.ref w3), .val (.ref w3), .val (.int (0 : Int32))] [(.ref w3), (.ref w3)])) rfl (by rw [hml]; rfl) (lenOf pd_1 rfl) rfl (by show 2 * 0 + _ ≤ _; exact Nat.le_of_eq rfl) (hb hby at_62) (by decide) (by decide) (fun v48 T48 h48 L48 X48 e48 q48 => ?_)
    obtain ⟨rfl, M48, s48⟩ := q48
    replace e48 : T48.heap = h0 := e48.trans s48
    have N48 := Fr.app N47 M48
    show own_Run p e below Φ (T48.setTop (mkF m 65 #[.val (.int p1), .val (.int p2), .val (.int (3 : Int32)), .val (.int (3 : Int32)), .val (.ref w3), .val (.ref w3), .val (.int (0 : Int32))] [(.int (own_in w3 w1 w2))]))
    rw [show (own_in w3 w1 w2) = (0 : Int32) from (by unfold own_in; rw [if_neg (Ne.symm ne13), if_neg (Ne.symm ne23)])]
    show own_Run p e below Φ (T48.setTop (mkF m 65 #[.val (.int p1), .val (.int p2), .val (.int (3 : Int32)), .val (.int (3 : Int32)), .val (.ref w3), .val (.ref w3), .val (.int (0 : Int32))] [(.int (0 : Int32))]))
    refine own_go (fun t k => XS.iload X48.here hx rfl (hb hby at_65) rfl  k) ?_
    refine own_go (fun t k => XS.icmpNo X48.here hx rfl (hb hby at_67) rfl (teq (rfl : (0 : Int32) = (0 : Int32))).2 k) ?_
    refine own_go (fun t k => XS.iconst X48.here hx rfl (hb hby at_70) k) ?_
    refine own_go (fun t k => XS.goto X48.here hx rfl (pc0 := 71) (pc' := 75) rfl (hb hby at_71) (by decide) (by decide) k) ?_
    subst hΦ
    exact own_retN X48 hx (t := .boolean) Bd.returns (by simp) hlk (hb hby at_75) e48 ⟨rfl, N48⟩ (by decide) (by decide)
set_option maxRecDepth 65536 in
set_option maxHeartbeats 40000000 in
theorem comes_1 {Post : Tables → Env → Array Value → State → Outcome → State → Prop} (hpost : ∀ tb e args s v u, (limb_1_1.after args s (.returned v) u = true ∧ limb_1_2.after args s (.returned v) u = true ∧ True) → FrameEnd s (.returned v) u (Jvm.fieldLocs frame_1_writes args s ++ Jvm.arrayLocs frame_1_arrays args s ++ Jvm.staticLocs frame_1_statics s) 0 0 → Post tb e args s (.returned v) u) :
    ArmFor flags0 classFile x code maxLocals ret World_1 tables_1 room_1 Calls_1 rest_1 Pre_1 Post := by
  intro l hfl _ _ p e ha hc hk s m args below hf hA hF happ hP
  obtain ⟨hcalls, hrest, hpre⟩ := hP
  obtain ⟨-, -, -, hnamed, -, -, -, hat⟩ := (Spec.applies_iff hf).mp happ
  obtain ⟨hg, hn⟩ := and_e (Cond.before_iff.mp (show (Jvm.Cond.and given_1 narrow_1).before args s = true from hpre))
  obtain ⟨hcount, hg⟩ := and_e hg
  obtain ⟨ha0, hg⟩ := and_e hg
  have ha1 := hg
  obtain ⟨w0, w1, rfl⟩ : ∃ w0 w1 : Value, args = #[w0, w1] := by
    have hs : args.size = 2 := by simpa [Cond.value, given_1] using hcount
    obtain ⟨L⟩ := args
    match L, hs with
    | [w0, w1], _ => exact ⟨w0, w1, rfl⟩
  have hw := fun d (hd : d ∈ tables_1) => atoms_spec (ws := Jvm.Cond.code x code maxLocals ret :: tables_1) hat d (List.mem_cons_of_mem _ hd)
  have hfit : Fit s := fun {y c} hc i hi => by
    obtain ⟨ha, rfl⟩ := Array.getElem?_eq_some_iff.mp hc
    have q := List.all_eq_true.mp ((Array.all_eq_true_iff_forall_mem.mp hF) _ (Array.getElem_mem ha)) i (List.mem_range.mpr hi)
    simpa [Array.getElem?_eq_getElem hi] using q
  obtain ⟨i0, ei0⟩ := is_v ha0
  obtain rfl : w0 = (.int i0) := Option.some.inj ei0
  obtain ⟨i1, ei1⟩ := is_v ha1
  obtain rfl : w1 = (.int i1) := Option.some.inj ei1
  obtain ⟨hn0, hn⟩ := and_e hn
  obtain ⟨hn1, hn⟩ := and_e hn
  obtain ⟨hn2, hn⟩ := and_e hn
  obtain ⟨hn3, hn⟩ := and_e hn
  obtain ⟨hn4, hn⟩ := and_e hn
  obtain ⟨hn5, hn⟩ := and_e hn
  obtain ⟨hn6, hn⟩ := and_e hn
  have hn7 := hn
  obtain ⟨u0, eu0⟩ := exa_v hn0
  have A0 := Exa.start eu0 hn0
  have S0 := Sta.start eu0 (Or.inr ⟨hw _ (List.mem_of_getElem? (i := 5) rfl), hw _ (List.mem_of_getElem? (i := 6) rfl)⟩)
  obtain ⟨u3, eu3⟩ := exa_v hn1
  have A3 := Exa.start eu3 hn1
  have S3 := Sta.start eu3 (Or.inr ⟨hw _ (List.mem_of_getElem? (i := 5) rfl), hw _ (List.mem_of_getElem? (i := 8) rfl)⟩)
  obtain ⟨u2, eu2⟩ := exa_v hn3
  have A2 := Exa.start eu2 hn3
  have S2 := Sta.start eu2 (Or.inr ⟨hw _ (List.mem_of_getElem? (i := 5) rfl), hw _ (List.mem_of_getElem? (i := 24) rfl)⟩)
  obtain ⟨u1, eu1⟩ := exa_v hn4
  have A1 := Exa.start eu1 hn4
  have S1 := Sta.start eu1 (Or.inr ⟨hw _ (List.mem_of_getElem? (i := 5) rfl), hw _ (List.mem_of_getElem? (i := 26) rfl)⟩)
  have B0 := own_fldI eu0 hn2
  have B2 := own_fldI eu2 hn5
  have B1 := own_fldI eu1 hn6
  have B3 := own_fldI eu3 hn7
  obtain ⟨n, o, h1, h2, h3, _, L, rfl, ⟨rfl, N⟩, hq⟩ := rm_law l s _ hw i0 i1 u0 u1 u2 u3 s.heap s.heap.size (Old.start s) S0 A0 B0 S1 A1 B1 S2 A2 B2 S3 A3 B3 tables_1 p e ha hc hk s m _ below hf ((Spec.applies_iff_loose hf).mp happ).1 ⟨rfl, State.Warmed39.refl s, rfl⟩ trivial
  refine ⟨n, _, h1, h2, h3, hpost _ _ _ _ _ _ ⟨Cond.after_iff.mpr rfl, Cond.after_iff.mpr (eq_i res_at (Term.int_eval (1)) rfl), trivial⟩ ⟨hq.1, hq.2.1, (hq.2.2.sift fun y hy => Or.inr (N y hy)).mono (by decide) (by decide)⟩⟩
theorem main_1_1 : Claimed_1_1 := comes_1 fun _ _ _ _ _ _ h hF => ⟨h.1, hF⟩
theorem main_1_2 : Claimed_1_2 := comes_1 fun _ _ _ _ _ _ h hF => ⟨h.2.1, hF⟩
end Jvm.Pilot.@@N@@
namespace Jvm.Pilot.@@N@@
open Jvm Jvm.ClassFile Sem Op Lib Jvm.Free Jvm.Stand Jvm.Pilot.@@N@@.Jvm.D
/-! MADE BY PROGRAM (witnessworld.py) out of the Statement's table words and the real class files: 12 classes; the members and pool entries that the words name. The judged class is class 1, her method 2. -/
namespace start1
open Jvm.ClassFile
def u (s : String) : CpInfo := .utf8 (stringToUtf16 s)
/-- a pool by its gaps: so many unusable entries, then the entry; so many at the end -/
def gap : Nat → List CpInfo → List CpInfo
  | 0, r => r
  | n + 1, r => .unusable :: gap n r
def poolList (es : List (Nat × CpInfo)) (last : Nat) : List CpInfo := es.foldr (fun e r => gap e.1 (e.2 :: r)) (gap last [])
def pool (es : List (Nat × CpInfo)) (last : Nat) : Array CpInfo := ⟨poolList es last⟩
def fileOf (pool : Array CpInfo) (this : Nat) (attrs : Array Attribute := #[]) (ms : Array MethodInfo := #[]) (fl : Nat := 33) (sup : Nat := 0) (ifs : Array Nat := #[]) (fds : Array FieldInfo := #[]) : ClassFile where
  minorVersion := 0
  majorVersion := 65
  constantPool := pool
  accessFlags := fl
  thisClass := this
  superClass := sup
  interfaces := ifs
  fields := fds
  methods := ms
  attributes := attrs
def plain (name : String) (sup : Option ClassId) : Class where
  name := name
  kind := .ordinary
  loader := none
  accessFlags := 33
  super := sup
  interfaces := #[]
  cf := none
  fields := #[]
  methods := #[]
  instanceTypes := #[]
  staticTypes := #[]
  resolved := #[]
  callSites := []
  init := .initialized
  statics := none
  mirror := none

def pool0 : Array CpInfo := pool [(5, u "<init>"), (0, u "()V"), (1, .class_ 10), (1, u "java/lang/Object")] 113

def k0m0 : Method := { name := "<init>", desc := "()V", sig := { parameters := [], returnType := none }, accessFlags := 1, code := none }
/-- java/lang/Object -/
def k0 : Class := { plain "java/lang/Object" none with
  accessFlags := 33
  interfaces := #[]
  cf := some (fileOf pool0 8 #[] #[{ accessFlags := 1, nameIndex := 5, descriptorIndex := 6, attributes := #[] }] 33 0 #[] #[])
  fields := #[]
  methods := #[k0m0]
  instanceTypes := #[]
  staticTypes := #[]
  resolved := Array.replicate 124 none
  statics := none }

def pool1 : Array CpInfo := pool [(2, .class_ 4), (1, u "java/lang/Object"), (0, u "<init>"), (0, u "()V"), (0, .fieldref 8 9), (0, .class_ 10), (0, .nameAndType 11 12), (0, u "com/example/glossyn/glossyn/query/OperatorKind"), (0, u "SUM"), (0, u "Lcom/example/glossyn/glossyn/query/OperatorKind;"), (0, .fieldref 8 14), (0, .nameAndType 15 12), (0, u "SYN"), (0, .fieldref 8 17), (0, .nameAndType 18 12), (0, u "UW"), (0, .fieldref 8 20), (0, .nameAndType 21 12), (0, u "BAND"), (0, .methodref 23 24), (0, .class_ 25), (0, .nameAndType 26 27), (0, u "com/example/glossyn/glossyn/query/OperatorKindAdmitsPinLaw"), (0, u "pick"), (0, u "(I)Lcom/example/glossyn/glossyn/query/OperatorKind;"), (0, .methodref 8 29), (0, .nameAndType 30 31), (0, u "admits"), (0, u "(Lcom/example/glossyn/glossyn/query/OperatorKind;)Z"), (3, u "law"), (0, u "(II)Z")] 2

def k1m0 : Method := { name := "<init>", desc := "()V", sig := { parameters := [], returnType := none }, accessFlags := 1, code := none }
def k1c1 : Code := { maxStack := 2, maxLocals := 1, code := method_2_code, exceptionTable := #[], attributes := #[] }
def k1m1 : Method := { name := "pick", desc := "(I)Lcom/example/glossyn/glossyn/query/OperatorKind;", sig := { parameters := [.int], returnType := some (.object "com/example/glossyn/glossyn/query/OperatorKind") }, accessFlags := 10, code := some k1c1 }
def k1c2 : Code := { maxStack := 2, maxLocals := 7, code := code, exceptionTable := #[], attributes := #[] }
def k1m2 : Method := { name := "law", desc := "(II)Z", sig := { parameters := [.int, .int], returnType := some .boolean }, accessFlags := 9, code := some k1c2 }
/-- com/example/glossyn/glossyn/query/OperatorKindAdmitsPinLaw -/
def k1 : Class := { plain "com/example/glossyn/glossyn/query/OperatorKindAdmitsPinLaw" (some 0) with
  accessFlags := 49
  interfaces := #[]
  cf := some (fileOf pool1 23 #[] #[{ accessFlags := 1, nameIndex := 5, descriptorIndex := 6, attributes := #[] }, { accessFlags := 10, nameIndex := 26, descriptorIndex := 27, attributes := #[] }, { accessFlags := 9, nameIndex := 35, descriptorIndex := 36, attributes := #[] }] 49 2 #[] #[])
  fields := #[]
  methods := #[k1m0, k1m1, k1m2]
  instanceTypes := #[]
  staticTypes := #[]
  resolved := Array.replicate 39 none
  statics := none }

def pool2 : Array CpInfo := pool [(1, .class_ 2), (0, u "java/lang/constant/Constable"), (0, .class_ 4), (0, u "java/lang/Object")] 6

/-- java/lang/constant/Constable -/
def k2 : Class := { plain "java/lang/constant/Constable" (some 0) with
  accessFlags := 1537
  interfaces := #[]
  cf := some (fileOf pool2 1 #[] #[] 1537 3 #[] #[])
  fields := #[]
  methods := #[]
  instanceTypes := #[]
  staticTypes := #[]
  resolved := Array.replicate 11 none
  statics := none }

def pool3 : Array CpInfo := pool [(1, .class_ 2), (0, u "java/lang/Comparable"), (0, .class_ 4), (0, u "java/lang/Object")] 7

/-- java/lang/Comparable -/
def k3 : Class := { plain "java/lang/Comparable" (some 0) with
  accessFlags := 1537
  interfaces := #[]
  cf := some (fileOf pool3 1 #[] #[] 1537 3 #[] #[])
  fields := #[]
  methods := #[]
  instanceTypes := #[]
  staticTypes := #[]
  resolved := Array.replicate 12 none
  statics := none }

def pool4 : Array CpInfo := pool [(1, .class_ 2), (0, u "java/io/Serializable"), (0, .class_ 4), (0, u "java/lang/Object")] 2

/-- java/io/Serializable -/
def k4 : Class := { plain "java/io/Serializable" (some 0) with
  accessFlags := 1537
  interfaces := #[]
  cf := some (fileOf pool4 1 #[] #[] 1537 3 #[] #[])
  fields := #[]
  methods := #[]
  instanceTypes := #[]
  staticTypes := #[]
  resolved := Array.replicate 7 none
  statics := none }

def pool5 : Array CpInfo := pool [(2, .class_ 4), (1, u "java/lang/Enum"), (0, u "name"), (0, u "Ljava/lang/String;"), (0, .fieldref 2 8), (0, .nameAndType 9 10), (0, u "ordinal"), (0, u "I"), (1, .class_ 14), (1, u "java/lang/Object"), (4, u "hash"), (86, .class_ 108), (1, u "java/lang/Enum$EnumDesc"), (2, .class_ 112), (0, u "java/lang/constant/Constable"), (0, .class_ 114), (0, u "java/lang/Comparable"), (0, .class_ 116), (0, u "java/io/Serializable"), (9, u "()I")] 77

def k5c0 : Code := { maxStack := 1, maxLocals := 1, code := jdk_37_method_2_code, exceptionTable := #[], attributes := #[] }
def k5m0 : Method := { name := "ordinal", desc := "()I", sig := { parameters := [], returnType := some .int }, accessFlags := 17, code := some k5c0 }
/-- java/lang/Enum -/
def k5 : Class := { plain "java/lang/Enum" (some 0) with
  accessFlags := 1057
  interfaces := #[2, 3, 4]
  cf := some (fileOf pool5 2 #[.nestMembers #[106]] #[{ accessFlags := 17, nameIndex := 9, descriptorIndex := 126, attributes := #[] }] 1057 12 #[111, 113, 115] #[{ accessFlags := 18, nameIndex := 5, descriptorIndex := 6, attributes := #[] }, { accessFlags := 18, nameIndex := 9, descriptorIndex := 10, attributes := #[] }, { accessFlags := 2, nameIndex := 19, descriptorIndex := 10, attributes := #[] }])
  fields := #[{ name := "name", type := (.object "java/lang/String"), accessFlags := 18, slot := 0, constantValue := 0 }, { name := "ordinal", type := .int, accessFlags := 18, slot := 1, constantValue := 0 }, { name := "hash", type := .int, accessFlags := 2, slot := 2, constantValue := 0 }]
  methods := #[k5m0]
  instanceTypes := #[(.object "java/lang/String"), .int, .int]
  staticTypes := #[]
  resolved := Array.replicate 204 none
  statics := none }

def pool6 : Array CpInfo := pool [(1, .class_ 2), (0, u "com/example/glossyn/glossyn/query/OperatorKind"), (2, u "SUM"), (0, u "Lcom/example/glossyn/glossyn/query/OperatorKind;"), (0, .fieldref 1 8), (0, .nameAndType 9 6), (0, u "SYN"), (0, .fieldref 1 11), (0, .nameAndType 12 6), (0, u "UW"), (2, u "BAND"), (2, u "$VALUES"), (0, u "[Lcom/example/glossyn/glossyn/query/OperatorKind;"), (6, .class_ 28), (1, u "java/lang/Enum"), (8, u "name"), (0, u "Ljava/lang/String;"), (2, u "windowed"), (0, u "Z"), (24, .methodref 1 68), (0, .nameAndType 69 70), (0, u "ordinal"), (0, u "()I"), (46, u "admits"), (0, u "(Lcom/example/glossyn/glossyn/query/OperatorKind;)Z")] 37

def k6c0 : Code := { maxStack := 4, maxLocals := 2, code := prog_26_method_7_code, exceptionTable := #[], attributes := #[] }
def k6m0 : Method := { name := "admits", desc := "(Lcom/example/glossyn/glossyn/query/OperatorKind;)Z", sig := { parameters := [(.object "com/example/glossyn/glossyn/query/OperatorKind")], returnType := some .boolean }, accessFlags := 1, code := some k6c0 }
/-- com/example/glossyn/glossyn/query/OperatorKind -/
def k6 : Class := { plain "com/example/glossyn/glossyn/query/OperatorKind" (some 5) with
  accessFlags := 16433
  interfaces := #[]
  cf := some (fileOf pool6 1 #[] #[{ accessFlags := 1, nameIndex := 117, descriptorIndex := 118, attributes := #[] }] 16433 26 #[] #[{ accessFlags := 16409, nameIndex := 5, descriptorIndex := 6, attributes := #[] }, { accessFlags := 16409, nameIndex := 9, descriptorIndex := 6, attributes := #[] }, { accessFlags := 16409, nameIndex := 12, descriptorIndex := 6, attributes := #[] }, { accessFlags := 16409, nameIndex := 15, descriptorIndex := 6, attributes := #[] }, { accessFlags := 18, nameIndex := 37, descriptorIndex := 38, attributes := #[] }, { accessFlags := 18, nameIndex := 41, descriptorIndex := 42, attributes := #[] }, { accessFlags := 4122, nameIndex := 18, descriptorIndex := 19, attributes := #[] }])
  fields := #[{ name := "SUM", type := (.object "com/example/glossyn/glossyn/query/OperatorKind"), accessFlags := 16409, slot := 0, constantValue := 0 }, { name := "SYN", type := (.object "com/example/glossyn/glossyn/query/OperatorKind"), accessFlags := 16409, slot := 1, constantValue := 0 }, { name := "UW", type := (.object "com/example/glossyn/glossyn/query/OperatorKind"), accessFlags := 16409, slot := 2, constantValue := 0 }, { name := "BAND", type := (.object "com/example/glossyn/glossyn/query/OperatorKind"), accessFlags := 16409, slot := 3, constantValue := 0 }, { name := "name", type := (.object "java/lang/String"), accessFlags := 18, slot := 3, constantValue := 0 }, { name := "windowed", type := .boolean, accessFlags := 18, slot := 4, constantValue := 0 }, { name := "$VALUES", type := (.array (.object "com/example/glossyn/glossyn/query/OperatorKind")), accessFlags := 4122, slot := 4, constantValue := 0 }]
  methods := #[k6m0]
  instanceTypes := #[(.object "java/lang/String"), .int, .int, (.object "java/lang/String"), .boolean]
  staticTypes := #[(.object "com/example/glossyn/glossyn/query/OperatorKind"), (.object "com/example/glossyn/glossyn/query/OperatorKind"), (.object "com/example/glossyn/glossyn/query/OperatorKind"), (.object "com/example/glossyn/glossyn/query/OperatorKind"), (.array (.object "com/example/glossyn/glossyn/query/OperatorKind"))]
  resolved := Array.replicate 156 none
  statics := some 0 }

def pool7 : Array CpInfo := pool [(1, u "java/lang/Cloneable"), (0, .class_ 1), (0, u "java/lang/Object"), (0, .class_ 3)] 3

/-- java/lang/Cloneable -/
def k7 : Class := { plain "java/lang/Cloneable" (some 0) with
  accessFlags := 1537
  interfaces := #[]
  cf := some (fileOf pool7 2 #[] #[] 1537 4 #[] #[])
  fields := #[]
  methods := #[]
  instanceTypes := #[]
  staticTypes := #[]
  resolved := Array.replicate 8 none
  statics := none }

/-- the primitive byte -/
def k8 : Class := { plain "byte" none with kind := .primitive 'B', accessFlags := 0x411 }
/-- [B -/
def k9 : Class := { plain "[B" (some 0) with kind := .array 8 .byte, interfaces := #[7, 4], accessFlags := 1041 }

/-- the primitive int -/
def k10 : Class := { plain "int" none with kind := .primitive 'I', accessFlags := 0x411 }
/-- [I -/
def k11 : Class := { plain "[I" (some 0) with kind := .array 10 .int, interfaces := #[7, 4], accessFlags := 1041 }

def heap : Heap := #[{ cls := 6, slots := #[.ref 1, .ref 2, .ref 3, .ref 4, .null], vm := .statics 6 },
  { cls := 6, slots := #[.null, .int 0, .int 0, .null, .int 0], vm := .none },
  { cls := 6, slots := #[.null, .int 1, .int 0, .null, .int 0], vm := .none },
  { cls := 6, slots := #[.null, .int 2, .int 0, .null, .int 0], vm := .none },
  { cls := 6, slots := #[.null, .int 3, .int 0, .null, .int 0], vm := .none }]
def classes : Array Class := #[k0, k1, k2, k3, k4, k5, k6, k7, k8, k9, k10, k11]
def interned : List (Array UInt16 × Addr) := []
def slotsUsed : Nat := 25
def theMethod : MethodId := ⟨1, 2⟩
def args0 : Array Value := #[.int 5, .int 7]
def aboutOver (below : List Frame) : State where
  vm := { classes := classes, interned := interned.toArray }
  heap := heap
  slotsUsed := slotsUsed
  threads := #[{ frames := .invoking theMethod args0 :: below }]
def below0 : List Frame := [.native { method := ⟨0, 0⟩, args := #[] }]
def about1 : State := aboutOver below0
def p0 : Program := .bare "" "" ""
def e0 : Env := launch0.env 0 0 0
theorem w_frames : about1.frames = Frame.invoking theMethod args0 :: below0 := rfl
set_option maxRecDepth 65536 in
theorem w_args : argsFit about1.vm theMethod args0 = true := by decide +kernel
set_option maxRecDepth 65536 in
theorem w_heap : heapFits about1 = true := by decide +kernel
set_option maxRecDepth 65536 in
theorem w_runnable : about1.curStatus? = some .runnable := by decide +kernel
set_option maxRecDepth 65536 in
theorem w_alone : about1.alone = true := by decide +kernel
set_option maxRecDepth 65536 in
theorem w_named : about1.methodNamed? x = some theMethod := by decide +kernel
set_option maxRecDepth 65536 in
theorem w_hears : about1.hears theMethod below0 = true := by decide +kernel
set_option maxRecDepth 65536 in
theorem w_ripe : about1.ripe theMethod args0 below0 = true := by decide +kernel
theorem w_running : about1.status = .running := rfl
set_option maxRecDepth 65536 in
theorem w_room : about1.hasRoom e0.platform room_1 = true :=
  launch0.hasRoom_least _ room_1 (by decide +kernel) (by decide +kernel) (by decide +kernel) (by decide +kernel) (by decide +kernel) (by decide +kernel)
theorem allAtoms_all (ts : List Jvm.Cond) (a : Array Jvm.Value) (st : Jvm.State) : (allAtoms ts).before a st = ts.all (fun c => c.before a st) := by
  induction ts with
  | nil => rfl
  | cons c t ih =>
    show (Jvm.Cond.and c (allAtoms t)).before a st = _
    rw [Jvm.Cond.before_and, ih, List.all_cons]
def words1 : List Jvm.Cond := Jvm.Cond.code x code maxLocals ret :: tables_1
/-- a 'code' word, met by the world's own term for the bytes: nothing is compared byte by byte -/
theorem code_word {y : MethodName} {bytes : ByteArray} {mx : Nat} {rt : Option FieldType} {a : Array Value} {s : State} {m : MethodId} {meth : Method} {c : Code} (h1 : s.methodNamed? y = some m) (h2 : s.vm.method? m = some meth) (h3 : meth.code = some c) (h4 : c.code = bytes)
    (h5 : (c.maxLocals == mx && c.exceptionTable.isEmpty && decide (c.maxStack ≤ mostOperands) && decide (meth.sig.returnType = rt) && !meth.locks && decide (parseMethodDescriptor y.desc = some meth.sig)) = true) : (Jvm.Cond.code y bytes mx rt).before a s = true := by
  simp only [Bool.and_eq_true, beq_iff_eq, Bool.not_eq_true', decide_eq_true_eq] at h5
  obtain ⟨⟨⟨⟨⟨g1, g2⟩, g3⟩, g4⟩, g5⟩, g6⟩ := h5
  simp [Cond.before, Cond.holds, Cond.value, h1, h2, h3, h4, g1, g2, g3, g4, g5, g6]
def isCode : Jvm.Cond → Bool
  | .code _ _ _ _ => true
  | _ => false
theorem all_split {L : List Jvm.Cond} {P : Jvm.Cond → Bool} (h1 : L.all (fun c => isCode c || P c) = true) (h2 : ∀ c ∈ L.filter isCode, P c = true) : L.all P = true := by
  refine List.all_eq_true.mpr fun c hc => ?_
  have h := List.all_eq_true.mp h1 c hc
  rcases Bool.eq_false_or_eq_true (isCode c) with hi | hi
  · exact h2 c (List.mem_filter.mpr ⟨hc, hi⟩)
  · simpa [hi] using h
set_option maxRecDepth 65536 in
theorem w_c0 : (Jvm.Cond.code x code maxLocals ret).before args0 about1 = true := code_word (m := ⟨1, 2⟩) (meth := k1m2) (c := k1c2) (by decide +kernel) rfl rfl rfl (by decide +kernel)
set_option maxRecDepth 65536 in
theorem w_c1 : (Jvm.Cond.code ({ cls := "com/example/glossyn/glossyn/query/OperatorKindAdmitsPinLaw", name := "pick", desc := "(I)Lcom/example/glossyn/glossyn/query/OperatorKind;" } : Jvm.MethodName) method_2_code (1 : Nat) (Option.some (Jvm.ClassFile.FieldType.object "com/example/glossyn/glossyn/query/OperatorKind"))).before args0 about1 = true := code_word (m := ⟨1, 1⟩) (meth := k1m1) (c := k1c1) (by decide +kernel) rfl rfl rfl (by decide +kernel)
set_option maxRecDepth 65536 in
theorem w_c2 : (Jvm.Cond.code ({ cls := "com/example/glossyn/glossyn/query/OperatorKind", name := "admits", desc := "(Lcom/example/glossyn/glossyn/query/OperatorKind;)Z" } : Jvm.MethodName) prog_26_method_7_code (2 : Nat) (Option.some Jvm.ClassFile.FieldType.boolean)).before args0 about1 = true := code_word (m := ⟨6, 0⟩) (meth := k6m0) (c := k6c0) (by decide +kernel) rfl rfl rfl (by decide +kernel)
set_option maxRecDepth 65536 in
theorem w_c3 : (Jvm.Cond.code ({ cls := "java/lang/Enum", name := "ordinal", desc := "()I" } : Jvm.MethodName) jdk_37_method_2_code (1 : Nat) (Option.some Jvm.ClassFile.FieldType.int)).before args0 about1 = true := code_word (m := ⟨5, 0⟩) (meth := k5m0) (c := k5c0) (by decide +kernel) rfl rfl rfl (by decide +kernel)
def codes1 : List Jvm.Cond := [Jvm.Cond.code x code maxLocals ret, Jvm.Cond.code ({ cls := "com/example/glossyn/glossyn/query/OperatorKindAdmitsPinLaw", name := "pick", desc := "(I)Lcom/example/glossyn/glossyn/query/OperatorKind;" } : Jvm.MethodName) method_2_code (1 : Nat) (Option.some (Jvm.ClassFile.FieldType.object "com/example/glossyn/glossyn/query/OperatorKind")), Jvm.Cond.code ({ cls := "com/example/glossyn/glossyn/query/OperatorKind", name := "admits", desc := "(Lcom/example/glossyn/glossyn/query/OperatorKind;)Z" } : Jvm.MethodName) prog_26_method_7_code (2 : Nat) (Option.some Jvm.ClassFile.FieldType.boolean), Jvm.Cond.code ({ cls := "java/lang/Enum", name := "ordinal", desc := "()I" } : Jvm.MethodName) jdk_37_method_2_code (1 : Nat) (Option.some Jvm.ClassFile.FieldType.int)]
set_option maxRecDepth 65536 in
theorem codes_eq : words1.filter isCode = codes1 := rfl
theorem w_codes : ∀ c ∈ words1.filter isCode, c.before args0 about1 = true := by
  rw [codes_eq]
  intro c hc
  simp only [codes1, List.mem_cons, List.not_mem_nil, or_false] at hc
  rcases hc with rfl | rfl | rfl | rfl
  · exact w_c0
  · exact w_c1
  · exact w_c2
  · exact w_c3
set_option maxRecDepth 65536 in
theorem w_t1 : (words1.take 24).all (fun c => isCode c || c.before args0 about1) = true := by decide +kernel
set_option maxRecDepth 65536 in
theorem w_t2 : (words1.drop 24).all (fun c => isCode c || c.before args0 about1) = true := by decide +kernel
theorem w_tables : (allAtoms (Jvm.Cond.code x code maxLocals ret :: tables_1)).before args0 about1 = true := by
  rw [allAtoms_all]
  show words1.all (fun c => c.before args0 about1) = true
  refine all_split ?_ w_codes
  rw [← List.take_append_drop 24 words1, List.all_append, w_t1, w_t2]
  rfl
set_option maxRecDepth 65536 in
theorem w_case : (Jvm.Cond.and given_1 narrow_1).before args0 about1 = true := by decide +kernel
theorem w_applies : (headSpec (Jvm.Cond.code x code maxLocals ret :: tables_1) room_1).applies x e0.platform about1 = true :=
  (Spec.applies_iff w_frames).mpr ⟨w_running, w_runnable, w_alone, w_named, w_hears, w_ripe, w_room, w_tables⟩
theorem atStart : AtStart classFile x code maxLocals ret World_1 tables_1 room_1 Calls_1 rest_1 Pre_1 launch0 p0 e0 about1 theMethod args0 below0 :=
  ⟨lists_1, trivial, launch0.admits_env _ _ _, launch0.least_env, fairChoices_fair.cas, fairChoices_fair.clock, w_frames, w_args, w_heap, w_applies, trivial, trivial, w_case⟩
end start1
theorem witness_1 : WitnessClaimed_1 := ⟨start1.p0, start1.e0, start1.about1, start1.theMethod, start1.args0, start1.below0, start1.atStart⟩
end Jvm.Pilot.@@N@@
