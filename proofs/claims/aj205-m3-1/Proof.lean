import JvmDerived
import JvmDerived.Pilot.@@N@@Statement
import JvmDerived.Pilot.@@N@@Code
set_option linter.unusedVariables false
set_option linter.unusedSimpArgs false
set_option maxHeartbeats 40000000
namespace Jvm.RoadKit
open Sem ClassFile Op Lib Jvm.Stand Jvm.Free Jvm.LawKit
section New
variable {p : Program} {l : Launch} {e : Env} {R : Room} {s : State} {m : MethodId} {args : Array Value} {below : List Frame} {meth : Method} {c : Code} {T : State} {locs : List Loc} {cells slots : Nat}
theorem retI (X : Stand p l e R s m args below meth c T locs cells slots) (hx : p.tables.exec = Jvm.exec) {pc : Nat} {Ls : Array Slot} {z : Int32} {rest : List Value} (hret : meth.sig.returnType = some .int) (hd : decode c.code pc = .ok (.ireturn, 1)) {fs : List Frame}
    (hl : ∀ (f : JFrame) (acts : List Action), f.method = m → f.locked = none → f.entered = [] → (doReturn e (T.setTop f) acts (some (.int z))).1 = T.setFrames fs) : Steps p.tables e below (T.setTop (mkF m pc Ls (.int z :: rest))) (T.setFrames fs) := by
  have hm' : T.vm.method? m = some meth := X.method'
  have hn : narrow .int (.int z) = .int z := rfl
  show Steps p.tables e below (T.setTop { method := m, pc := pc, locals := Ls, stack := _ :: rest, locked := none }) _
  jvm_step X.here [X.here.top, hx, hd, hm', hret, hn]
  first | (intro acts; rw [hl _ acts rfl rfl rfl]) | rw [hl _ _ rfl rfl rfl]
  exact Steps.refl _
end New
end Jvm.RoadKit
namespace Jvm.Pilot.@@N@@
open Jvm Jvm.ClassFile Sem Op Lib Jvm.Free Jvm.Stand Jvm.LawKit Jvm.RoadKit Bundle Jvm.Pilot.@@N@@.Jvm.D
/-! a run that ends well: what this text is made of -/
def own_Run (p : Program) (e : Env) (below : List Frame) (Φ : State → Prop) (S : State) : Prop := ∃ t, Steps p.tables e below S t ∧ Φ t
def own_Fin (s : State) (below : List Frame) (C D : Nat) (Q : Option Value → Heap → List Loc → Prop) (t : State) : Prop :=
  t.status = .running ∧ ∃ v L, Ended t below (.returned v) ∧ Q v t.heap L ∧ FrameEnd s (.returned v) t L C D
def own_Met (l : Launch) (Z : State) (y : MethodName) (bytes : ByteArray) (maxL : Nat) (ret : Option FieldType) (rm : Room) (as : Array Value) (h : Heap) (Q : Option Value → Heap → List Loc → Prop) : Prop :=
  ∀ ws : List Jvm.Cond, MetFree l y (head1 (Jvm.Cond.code y bytes maxL ret :: ws) rm) (fun a U => a = as ∧ Z.Warmed39 U.vm ∧ U.heap = h) (fun _ _ _ _ _ => True) (fun _ U o U' => ∃ v L, o = .returned v ∧ Q v U'.heap L ∧ FrameEnd U o U' L rm.cells rm.slots)
section OwnRun
variable {p : Program} {l : Launch} {e : Env} {R : Room} {s : State} {m : MethodId} {args : Array Value} {below : List Frame} {meth : Method} {c : Code} {T : State} {locs : List Loc} {cells slots : Nat} {Φ : State → Prop} {S S' : State} {Z : State} {a0 : Array Value} {h : Heap}
theorem own_go (st : ∀ t, Steps p.tables e below S' t → Steps p.tables e below S t) (r : own_Run p e below Φ S') : own_Run p e below Φ S := r.elim fun t q => ⟨t, st t q.1, q.2⟩
theorem own_via (st : Steps p.tables e below S S') (r : own_Run p e below Φ S') : own_Run p e below Φ S := r.elim fun t q => ⟨t, st.trans q.1, q.2⟩
theorem own_cast {g g' : JFrame} (q : g = g') (r : own_Run p e below Φ (T.setTop g')) : own_Run p e below Φ (T.setTop g) := q ▸ r
theorem own_body {C D : Nat} {Q : Option Value → Heap → List Loc → Prop} (r : own_Run p e below (own_Fin s below C D Q) S) :
    ∃ s₂ o, Steps p.tables e below S s₂ ∧ s₂.status = .running ∧ Ended s₂ below o ∧ ∃ v L, o = .returned v ∧ Q v s₂.heap L ∧ FrameEnd s o s₂ L C D := by
  obtain ⟨t, q1, q2, v, L, q3, q4, q5⟩ := r
  exact ⟨t, _, q1, q2, q3, v, L, rfl, q4, q5⟩
variable {C D : Nat} {Q : Option Value → Heap → List Loc → Prop}
theorem own_retI (X : Stand p l e R s m args below meth c T locs cells slots) (hx : p.tables.exec = Jvm.exec) (hret : meth.sig.returnType = some .int) (hlk : meth.locks = false) {pc : Nat} {Ls : Array Slot} {z : Int32} {rest : List Value} (hd : decode c.code pc = .ok (.ireturn, 1)) (eT : T.heap = h) (hq : Q (some (.int z)) h locs) (hc : cells ≤ C) (hs : slots ≤ D) :
    own_Run p e below (own_Fin s below C D Q) (T.setTop (mkF m pc Ls (.int z :: rest))) := by
  obtain ⟨fs, hr, hrun, hended, hW, hsame⟩ := X.leave (v := some (.int z)) (fun q => by rw [hret] at q; cases q) hlk
  exact ⟨_, retI X hx hret hd hr, hrun, _, _, hended, by show Q _ T.heap _; rw [eT]; exact hq, ⟨_, rfl⟩, hW, hsame.mono hc hs⟩
theorem own_retN (X : Stand p l e R s m args below meth c T locs cells slots) (hx : p.tables.exec = Jvm.exec) {t : FieldType} (hret : meth.sig.returnType = some t) (ht : t = .boolean ∨ t = .byte ∨ t = .char ∨ t = .short) (hlk : meth.locks = false) {pc : Nat} {Ls : Array Slot} {z : Int32} {rest : List Value} (hd : decode c.code pc = .ok (.ireturn, 1)) (eT : T.heap = h) (hq : Q (some (.int (nar t z))) h locs) (hc : cells ≤ C) (hs : slots ≤ D) :
    own_Run p e below (own_Fin s below C D Q) (T.setTop (mkF m pc Ls (.int z :: rest))) := by
  obtain ⟨fs, hr, hrun, hended, hW, hsame⟩ := X.leave (v := some (.int (nar t z))) (fun q => by rw [hret] at q; cases q) hlk
  exact ⟨_, retN X hx hret ht hd hr, hrun, _, _, hended, by show Q _ T.heap _; rw [eT]; exact hq, ⟨_, rfl⟩, hW, hsame.mono hc hs⟩
theorem own_retV (X : Stand p l e R s m args below meth c T locs cells slots) (hx : p.tables.exec = Jvm.exec) (hret : meth.sig.returnType = none) (hlk : meth.locks = false) {pc : Nat} {Ls : Array Slot} (hd : decode c.code pc = .ok (.return_, 1)) (eT : T.heap = h) (hq : Q none h locs) (hc : cells ≤ C) (hs : slots ≤ D) :
    own_Run p e below (own_Fin s below C D Q) (T.setTop (mkF m pc Ls [])) := by
  obtain ⟨fs, hr, hrun, hended, hW, hsame⟩ := X.leave (v := none) (fun _ => rfl) hlk
  exact ⟨_, X.returnOut hx hret hd hr, hrun, _, _, hended, by show Q _ T.heap _; rw [eT]; exact hq, ⟨_, rfl⟩, hW, hsame.mono hc hs⟩
theorem own_retO (X : Stand p l e R s m args below meth c T locs cells slots) (hx : p.tables.exec = Jvm.exec) {t : FieldType} {i : Instr} {w : Value} (hret : meth.sig.returnType = some t) (hn : narrow t w = w)
    (hi : (i = .ireturn ∧ (t = .int ∨ t = .boolean ∨ t = .byte ∨ t = .char ∨ t = .short) ∧ ∃ z, w = .int z) ∨ (i = .lreturn ∧ t = .long ∧ ∃ z, w = .long z) ∨ (i = .dreturn ∧ t = .double ∧ ∃ z, w = .double z) ∨ (i = .freturn ∧ t = .float ∧ ∃ z, w = .float z) ∨ (i = .areturn ∧ t.isReference = true ∧ w.isRef = true))
    (hlk : meth.locks = false) {pc : Nat} {Ls : Array Slot} {rest : List Value} (hd : decode c.code pc = .ok (i, 1)) (eT : T.heap = h) (hq : Q (some w) h locs) (hc : cells ≤ C) (hs : slots ≤ D) :
    own_Run p e below (own_Fin s below C D Q) (T.setTop (mkF m pc Ls (w :: rest))) := by
  obtain ⟨fs, hr, hrun, hended, hW, hsame⟩ := X.leave (v := some w) (fun q => by rw [hret] at q; cases q) hlk
  exact ⟨_, retOut X hx hret hn hi hd hr, hrun, _, _, hended, by show Q _ T.heap _; rw [eT]; exact hq, ⟨_, rfl⟩, hW, hsame.mono hc hs⟩
/-- who pays a call -/
def own_Bk (l : Launch) (R : Room) (p : Program) (e : Env) (below : List Frame) (s : State) (args : Array Value) (y : MethodName) (W : Nat) (as : Array Value) (h : Heap) (cc ss : Nat) (Q : Option Value → Heap → List Loc → Prop) : Prop :=
  Back l R p e below s args y 3 W (fun A a => a = as ∧ A.U.heap = h ∧ A.cells + cc ≤ R.cells ∧ A.slots + ss ≤ R.slots) (fun A _ v B => ∃ L, Q v B.U.heap L ∧ B.locs = A.locs ++ L ∧ B.cells = A.cells + cc ∧ B.slots = A.slots + ss)
theorem own_bk {y : MethodName} {bytes : ByteArray} {maxL : Nat} {ret : Option FieldType} {rm : Room} {W : Nat} {as : Array Value} (hM : own_Met l Z y bytes maxL ret rm as h Q) (hZ : Z.Warmed39 s.vm) (wc : (Jvm.Cond.code y bytes maxL ret).before a0 Z = true) (wz : (Jvm.Cond.initialized y.cls).before a0 Z = true) (hf : rm.frames + 1 ≤ R.frames) (hl : W + (maxL + 11) + rm.locals ≤ R.locals) :
    own_Bk l R p e below s args y W as h rm.cells rm.slots Q := backOf (W := W) (hM []) hZ wc wz hf hl
/-- a static method by its contract -/
theorem own_callS (X : Stand p l e R s m args below meth c T locs cells slots) (hx : p.tables.exec = Jvm.exec) (hZ : Z.Warmed39 s.vm) {own : String} {index : Nat} {y : MethodName} {bytes : ByteArray} {maxL : Nat} {ret : Option FieldType} {cc ss : Nat}
    (hown : s.vm.findClass own = some m.cls) (w1 : (Jvm.Cond.methodLink own index y).before a0 Z = true) (w2 : (Jvm.Cond.static y).before a0 Z = true) (w3 : (Jvm.Cond.initialized y.cls).before a0 Z = true) (w4 : (Jvm.Cond.code y bytes maxL ret).before a0 Z = true)
    (hy : y.cls ≠ "java/lang/invoke/MethodHandle" ∧ y.cls ≠ "java/lang/invoke/VarHandle") {W : Nat} {argsL rest : List Value} (hK : own_Bk l R p e below s args y W argsL.toArray h cc ss Q) (eT : T.heap = h)
    {g : JFrame} (hg : g.method = m) (hsize : g.locals.size = c.maxLocals) (hlen : ∀ sig, parseMethodDescriptor y.desc = some sig → argsL.length = sig.parameters.length)
    (hstack : g.stack = argsL.reverse ++ rest) (hW : 2 * g.monitorRoom + (rest.map fun v => v.category).sum ≤ W) (hdg : decode c.code g.pc = .ok (.invokestatic index, 3))
    (hcl : cells + cc ≤ R.cells) (hsl : slots + ss ≤ R.slots)
    (k : ∀ v T' h' L, Stand p l e R s m args below meth c T' (locs ++ L) (cells + cc) (slots + ss) → T'.heap = h' → Q v h' L → own_Run p e below Φ (T'.setTop { g with pc := g.pc + 3, stack := v.toList ++ rest })) : own_Run p e below Φ (T.setTop g) := by
  obtain ⟨v, _, ⟨T', L', k', n'⟩, -, X', ⟨Lc, hQ, l1, y1, z1⟩, st⟩ := Jvm.LawKit.callS X hx (y := y) hown (mvT hZ w1) (mvT hZ w2) (mvT hZ w3) (mvT hZ w4) hy hK hg hsize hlen hstack hW hdg (fun _ _ => ⟨rfl, eT, hcl, hsl⟩)
  dsimp only [Pt.U, Pt.locs, Pt.cells, Pt.slots] at X' l1 y1 z1 st hQ
  subst l1 y1 z1
  exact own_go st (k v T' _ Lc X' rfl hQ)
/-- a constructor by its contract -/
theorem own_callI (X : Stand p l e R s m args below meth c T locs cells slots) (hx : p.tables.exec = Jvm.exec) (hZ : Z.Warmed39 s.vm) {own : String} {index : Nat} {y : MethodName} {bytes : ByteArray} {maxL : Nat} {cc ss : Nat} (hy1 : y.name = "<init>")
    (hown : s.vm.findClass own = some m.cls) (w1 : (Jvm.Cond.methodLink own index y).before a0 Z = true) (w2 : (Jvm.Cond.instanceMethod y).before a0 Z = true) (w4 : (Jvm.Cond.code y bytes maxL none).before a0 Z = true)
    (hy : y.cls ≠ "java/lang/invoke/MethodHandle" ∧ y.cls ≠ "java/lang/invoke/VarHandle") {W : Nat} {a : Addr} {argsL rest : List Value} (hK : own_Bk l R p e below s args y W (.ref a :: argsL).toArray h cc ss Q) (eT : T.heap = h)
    {g : JFrame} (hg : g.method = m) (hsize : g.locals.size = c.maxLocals) (hlen : ∀ sig, parseMethodDescriptor y.desc = some sig → argsL.length = sig.parameters.length)
    (hstack : g.stack = argsL.reverse ++ .ref a :: rest) (hW : 2 * g.monitorRoom + (rest.map fun v => v.category).sum ≤ W) (hdg : decode c.code g.pc = .ok (.invokespecial index, 3))
    (hcl : cells + cc ≤ R.cells) (hsl : slots + ss ≤ R.slots)
    (k : ∀ v T' h' L, Stand p l e R s m args below meth c T' (locs ++ L) (cells + cc) (slots + ss) → T'.heap = h' → Q v h' L → own_Run p e below Φ (T'.setTop { g with pc := g.pc + 3, stack := v.toList ++ rest })) : own_Run p e below Φ (T.setTop g) := by
  obtain ⟨v, _, ⟨T', L', k', n'⟩, -, X', ⟨Lc, hQ, l1, y1, z1⟩, st⟩ := X.specialBack hx (y := y) hy1 hown (mvT hZ w1) (mvT hZ w2) (mvT hZ w4) hy hK hg hsize (Steps.refl _) (a := a) hlen hstack hW hdg (fun _ _ => ⟨rfl, eT, hcl, hsl⟩)
  dsimp only [Pt.U, Pt.locs, Pt.cells, Pt.slots] at X' l1 y1 z1 st hQ
  subst l1 y1 z1
  exact own_via st (k v T' _ Lc X' rfl hQ)
/-- an instance method by the contract of the body that the receiver's class selects -/
theorem own_callV (X : Stand p l e R s m args below meth c T locs cells slots) (hx : p.tables.exec = Jvm.exec) (hZ : Z.Warmed39 s.vm) {own C : String} {index : Nat} {y z : MethodName} {cc ss : Nat}
    (hown : s.vm.findClass own = some m.cls) (w1 : (Jvm.Cond.methodLink own index y).before a0 Z = true) (w2 : (Jvm.Cond.declares y).before a0 Z = true) (hnf : NotFace s y) (w3 : (Jvm.Cond.selects C y z).before a0 Z = true) (w4 : (Jvm.Cond.instanceMethod z).before a0 Z = true)
    (hy : y.cls ≠ "java/lang/invoke/MethodHandle" ∧ y.cls ≠ "java/lang/invoke/VarHandle") {W : Nat} {a : Addr} {argsL rest : List Value} (hK : own_Bk l R p e below s args z W (.ref a :: argsL).toArray h cc ss Q) (eT : T.heap = h) (E : Exa Z h a C)
    {g : JFrame} (hg : g.method = m) (hsize : g.locals.size = c.maxLocals) (hlen : ∀ sig, parseMethodDescriptor y.desc = some sig → argsL.length = sig.parameters.length)
    (hstack : g.stack = argsL.reverse ++ .ref a :: rest) (hW : 2 * g.monitorRoom + (rest.map fun v => v.category).sum ≤ W) (hdg : decode c.code g.pc = .ok (.invokevirtual index, 3))
    (hcl : cells + cc ≤ R.cells) (hsl : slots + ss ≤ R.slots)
    (k : ∀ v T' h' L, Stand p l e R s m args below meth c T' (locs ++ L) (cells + cc) (slots + ss) → T'.heap = h' → Q v h' L → own_Run p e below Φ (T'.setTop { g with pc := g.pc + 3, stack := v.toList ++ rest })) : own_Run p e below Φ (T.setTop g) := by
  obtain ⟨cq, kq, qa, qb, qc⟩ := isOf hZ eT E
  obtain ⟨v, _, ⟨T', L', k', n'⟩, -, X', ⟨Lc, hQ, l1, y1, z1⟩, st⟩ := X.virtualBack hx (y := y) (z := z) hown (mvT hZ w1) (mvT hZ w2) hnf (mvT hZ w3) (mvT hZ w4) hy hK qa qc hg hsize (Steps.refl _) hlen hstack hW hdg (fun _ _ => ⟨rfl, eT, hcl, hsl⟩)
  dsimp only [Pt.U, Pt.locs, Pt.cells, Pt.slots] at X' l1 y1 z1 st hQ
  subst l1 y1 z1
  exact own_via st (k v T' _ Lc X' rfl hQ)
/-- an instance method that a superclass declares -/
theorem own_callU (X : Stand p l e R s m args below meth c T locs cells slots) (hx : p.tables.exec = Jvm.exec) (hZ : Z.Warmed39 s.vm) {own C owner : String} {index : Nat} {y z : MethodName} {cc ss : Nat}
    (hown : s.vm.findClass own = some m.cls) (w1 : (Jvm.Cond.methodLink own index y).before a0 Z = true) (w0 : (Jvm.Cond.sameMethod y.cls owner y.name y.desc).before a0 Z = true) (w2 : (Jvm.Cond.declares ⟨owner, y.name, y.desc⟩).before a0 Z = true) (w3 : (Jvm.Cond.selects C y z).before a0 Z = true) (w4 : (Jvm.Cond.instanceMethod z).before a0 Z = true)
    (hy : owner ≠ "java/lang/invoke/MethodHandle" ∧ owner ≠ "java/lang/invoke/VarHandle") {W : Nat} {a : Addr} {argsL rest : List Value} (hK : own_Bk l R p e below s args z W (.ref a :: argsL).toArray h cc ss Q) (eT : T.heap = h) (E : Exa Z h a C)
    {g : JFrame} (hg : g.method = m) (hsize : g.locals.size = c.maxLocals) (hlen : ∀ sig, parseMethodDescriptor y.desc = some sig → argsL.length = sig.parameters.length)
    (hstack : g.stack = argsL.reverse ++ .ref a :: rest) (hW : 2 * g.monitorRoom + (rest.map fun v => v.category).sum ≤ W) (hdg : decode c.code g.pc = .ok (.invokevirtual index, 3))
    (hcl : cells + cc ≤ R.cells) (hsl : slots + ss ≤ R.slots)
    (k : ∀ v T' h' L, Stand p l e R s m args below meth c T' (locs ++ L) (cells + cc) (slots + ss) → T'.heap = h' → Q v h' L → own_Run p e below Φ (T'.setTop { g with pc := g.pc + 3, stack := v.toList ++ rest })) : own_Run p e below Φ (T.setTop g) := by
  obtain ⟨cq, kq, qa, qb, qc⟩ := isOf hZ eT E
  obtain ⟨v, _, ⟨T', L', k', n'⟩, -, X', ⟨Lc, hQ, l1, y1, z1⟩, st⟩ := X.virtualBackUp hx (x := y) (y := z) hown (mvT hZ w1) (mvT hZ w0) (mvT hZ w2) hy (mvT hZ w3) (mvT hZ w4) hK qa qc hg hsize (Steps.refl _) hlen hstack hW hdg (fun _ _ => ⟨rfl, eT, hcl, hsl⟩)
  dsimp only [Pt.U, Pt.locs, Pt.cells, Pt.slots] at X' l1 y1 z1 st hQ
  subst l1 y1 z1
  exact own_via st (k v T' _ Lc X' rfl hQ)
/-- a private method by its contract -/
theorem own_callP (X : Stand p l e R s m args below meth c T locs cells slots) (hx : p.tables.exec = Jvm.exec) (hZ : Z.Warmed39 s.vm) {own C : String} {index : Nat} {y : MethodName} {bytes : ByteArray} {maxL : Nat} {ret : Option FieldType} {cc ss : Nat}
    (hown : s.vm.findClass own = some m.cls) (w1 : (Jvm.Cond.methodLink own index y).before a0 Z = true) (w2 : (Jvm.Cond.instanceMethod y).before a0 Z = true) (w3 : (Jvm.Cond.selects y.cls y y).before a0 Z = true) (w4 : (Jvm.Cond.privateMethod y).before a0 Z = true) (w6 : (Jvm.Cond.code y bytes maxL ret).before a0 Z = true)
    (hy : y.cls ≠ "java/lang/invoke/MethodHandle" ∧ y.cls ≠ "java/lang/invoke/VarHandle") {W : Nat} {a : Addr} {argsL rest : List Value} (hK : own_Bk l R p e below s args y W (.ref a :: argsL).toArray h cc ss Q) (eT : T.heap = h) (E : Exa Z h a C)
    {g : JFrame} (hg : g.method = m) (hsize : g.locals.size = c.maxLocals) (hlen : ∀ sig, parseMethodDescriptor y.desc = some sig → argsL.length = sig.parameters.length)
    (hstack : g.stack = argsL.reverse ++ .ref a :: rest) (hW : 2 * g.monitorRoom + (rest.map fun v => v.category).sum ≤ W) (hdg : decode c.code g.pc = .ok (.invokevirtual index, 3))
    (hcl : cells + cc ≤ R.cells) (hsl : slots + ss ≤ R.slots)
    (k : ∀ v T' h' L, Stand p l e R s m args below meth c T' (locs ++ L) (cells + cc) (slots + ss) → T'.heap = h' → Q v h' L → own_Run p e below Φ (T'.setTop { g with pc := g.pc + 3, stack := v.toList ++ rest })) : own_Run p e below Φ (T.setTop g) := by
  obtain ⟨cq, q1, q2⟩ := E.cell
  obtain ⟨v, _, ⟨T', L', k', n'⟩, -, X', ⟨Lc, hQ, l1, y1, z1⟩, st⟩ := X.privateBack hx (y := y) hown (mvT hZ w1) (mvT hZ w2) (mvT hZ w3) (Cond.privateMethod_at (mvP hZ w4 (args := #[]))) (mvT hZ w6) hy hK hg hsize (Steps.refl _) (a := a) (by rw [eT]; exact q1) q2 hlen hstack hW hdg (fun _ _ => ⟨rfl, eT, hcl, hsl⟩)
  dsimp only [Pt.U, Pt.locs, Pt.cells, Pt.slots] at X' l1 y1 z1 st hQ
  subst l1 y1 z1
  exact own_via st (k v T' _ Lc X' rfl hQ)
/-- arrays: reading -/
theorem own_iaload (X : Stand p l e R s m args below meth c T locs cells slots) (hx : p.tables.exec = Jvm.exec) (hZ : Z.Warmed39 s.vm) (eT : T.heap = h) {a : Addr} {k : ClassId} {z j : Int32} {vs : List Value} {dv v : Value} (V : Arv Z h a k .int z vs dv) (hj : ¬ j < 0 ∧ j < z) (hv : vs.getD j.toNatClampNeg dv = v)
    {g : JFrame} (hg : g.method = m) {rest : List Value} (hs : g.stack = .int j :: .ref a :: rest) (hd : decode c.code g.pc = .ok (.iaload, 1)) (r : own_Run p e below Φ (T.setTop { g with pc := g.pc + 1, stack := v :: rest })) : own_Run p e below Φ (T.setTop g) := by
  obtain ⟨cl, A, -, S, -, H, -⟩ := V
  exact own_go (fun t q => X.iaload hx (j := j) (v := v) (by rw [eT]; exact A.1) (State.isArrayOf_alike hZ.alike A.2.1) A.2.2 (inb_of S hj) (Has.at H (inb_of S hj) hv) hg hs hd t q) r
theorem own_laload (X : Stand p l e R s m args below meth c T locs cells slots) (hx : p.tables.exec = Jvm.exec) (hZ : Z.Warmed39 s.vm) (eT : T.heap = h) {a : Addr} {k : ClassId} {z j : Int32} {vs : List Value} {dv v : Value} (V : Arv Z h a k .long z vs dv) (hj : ¬ j < 0 ∧ j < z) (hv : vs.getD j.toNatClampNeg dv = v)
    {g : JFrame} (hg : g.method = m) {rest : List Value} (hs : g.stack = .int j :: .ref a :: rest) (hd : decode c.code g.pc = .ok (.laload, 1)) (r : own_Run p e below Φ (T.setTop { g with pc := g.pc + 1, stack := v :: rest })) : own_Run p e below Φ (T.setTop g) := by
  obtain ⟨cl, A, -, S, -, H, -⟩ := V
  exact own_go (fun t q => X.laload hx (j := j) (v := v) (by rw [eT]; exact A.1) (State.isArrayOf_alike hZ.alike A.2.1) A.2.2 (inb_of S hj) (Has.at H (inb_of S hj) hv) hg hs hd t q) r
theorem own_caload (X : Stand p l e R s m args below meth c T locs cells slots) (hx : p.tables.exec = Jvm.exec) (hZ : Z.Warmed39 s.vm) (eT : T.heap = h) {a : Addr} {k : ClassId} {z j : Int32} {vs : List Value} {dv v : Value} (V : Arv Z h a k .char z vs dv) (hj : ¬ j < 0 ∧ j < z) (hv : vs.getD j.toNatClampNeg dv = v)
    {g : JFrame} (hg : g.method = m) {rest : List Value} (hs : g.stack = .int j :: .ref a :: rest) (hd : decode c.code g.pc = .ok (.caload, 1)) (r : own_Run p e below Φ (T.setTop { g with pc := g.pc + 1, stack := v :: rest })) : own_Run p e below Φ (T.setTop g) := by
  obtain ⟨cl, A, -, S, -, H, -⟩ := V
  exact own_go (fun t q => X.caload hx (j := j) (v := v) (by rw [eT]; exact A.1) (State.isArrayOf_alike hZ.alike A.2.1) A.2.2 (inb_of S hj) (Has.at H (inb_of S hj) hv) hg hs hd t q) r
theorem own_baload (X : Stand p l e R s m args below meth c T locs cells slots) (hx : p.tables.exec = Jvm.exec) (hZ : Z.Warmed39 s.vm) (eT : T.heap = h) {a : Addr} {k : ClassId} {z j : Int32} {vs : List Value} {dv v : Value} (V : Arv Z h a k .byte z vs dv) (hj : ¬ j < 0 ∧ j < z) (hv : vs.getD j.toNatClampNeg dv = v)
    {g : JFrame} (hg : g.method = m) {rest : List Value} (hs : g.stack = .int j :: .ref a :: rest) (hd : decode c.code g.pc = .ok (.baload, 1)) (r : own_Run p e below Φ (T.setTop { g with pc := g.pc + 1, stack := v :: rest })) : own_Run p e below Φ (T.setTop g) := by
  obtain ⟨cl, A, -, S, -, H, -⟩ := V
  exact own_go (fun t q => X.baloadBytes hx (j := j) (v := v) (by rw [eT]; exact A.1) (State.isArrayOf_alike hZ.alike A.2.1) A.2.2 (inb_of S hj) (Has.at H (inb_of S hj) hv) hg hs hd t q) r
theorem own_arrlen (X : Stand p l e R s m args below meth c T locs cells slots) (hx : p.tables.exec = Jvm.exec) (hZ : Z.Warmed39 s.vm) (eT : T.heap = h) {a : Addr} {k : ClassId} {ty : FieldType} {z : Int32} {vs : List Value} {dv : Value} (V : Arv Z h a k ty z vs dv)
    {g : JFrame} (hg : g.method = m) {rest : List Value} (hs : g.stack = .ref a :: rest) (hd : decode c.code g.pc = .ok (.arraylength, 1)) (r : own_Run p e below Φ (T.setTop { g with pc := g.pc + 1, stack := .int z :: rest })) : own_Run p e below Φ (T.setTop g) := by
  obtain ⟨cl, A, -, S, M, -, -⟩ := V
  refine own_go (fun t q => X.arraylength hx (by rw [eT]; exact A.1) (State.isArrayOf_alike hZ.alike A.2.1) hg hs hd t q) ?_
  rw [len_of S M]; exact r
/-- arrays: writing -/
theorem own_iastore (X : Stand p l e R s m args below meth c T locs cells slots) (hx : p.tables.exec = Jvm.exec) (hZ : Z.Warmed39 s.vm) (eT : T.heap = h) {a : Addr} {k : ClassId} {z j x : Int32} {vs : List Value} {dv : Value} (V : Arv Z h a k .int z vs dv) (hj : ¬ j < 0 ∧ j < z) (i : Nat) (hi : j.toNatClampNeg = i) (hl : i < vs.length)
    {g : JFrame} (hg : g.method = m) {rest : List Value} (hs : g.stack = .int x :: .int j :: .ref a :: rest) (hd : decode c.code g.pc = .ok (.iastore, 1))
    (r : ∀ T' h', Stand p l e R s m args below meth c T' (locs ++ [⟨a, j.toNatClampNeg⟩]) cells slots → T'.heap = h' → Wr h h' a j.toNatClampNeg (.int x) → Arv Z h' a k .int z (vs.set i (.int x)) dv → own_Run p e below Φ (T'.setTop { g with pc := g.pc + 1, stack := rest })) : own_Run p e below Φ (T.setTop g) := by
  obtain ⟨cl, A, q, S, N, H, G⟩ := V
  obtain ⟨T', h', X', e', W, st⟩ := stI X hx hZ eT A (j := j) (inb_of S hj) hg hs hd
  exact own_go st (r T' h' X' e' W (Arv.set A q S N H G rfl W i hi hl))
theorem own_lastore (X : Stand p l e R s m args below meth c T locs cells slots) (hx : p.tables.exec = Jvm.exec) (hZ : Z.Warmed39 s.vm) (eT : T.heap = h) {a : Addr} {k : ClassId} {z j : Int32} {x : Int64} {vs : List Value} {dv : Value} (V : Arv Z h a k .long z vs dv) (hj : ¬ j < 0 ∧ j < z) (i : Nat) (hi : j.toNatClampNeg = i) (hl : i < vs.length)
    {g : JFrame} (hg : g.method = m) {rest : List Value} (hs : g.stack = .long x :: .int j :: .ref a :: rest) (hd : decode c.code g.pc = .ok (.lastore, 1))
    (r : ∀ T' h', Stand p l e R s m args below meth c T' (locs ++ [⟨a, j.toNatClampNeg⟩]) cells slots → T'.heap = h' → Wr h h' a j.toNatClampNeg (.long x) → Arv Z h' a k .long z (vs.set i (.long x)) dv → own_Run p e below Φ (T'.setTop { g with pc := g.pc + 1, stack := rest })) : own_Run p e below Φ (T.setTop g) := by
  obtain ⟨cl, A, q, S, N, H, G⟩ := V
  obtain ⟨T', h', X', e', W, st⟩ := stJ X hx hZ eT A (j := j) (inb_of S hj) hg hs hd
  exact own_go st (r T' h' X' e' W (Arv.set A q S N H G rfl W i hi hl))
theorem own_bastore (X : Stand p l e R s m args below meth c T locs cells slots) (hx : p.tables.exec = Jvm.exec) (hZ : Z.Warmed39 s.vm) (eT : T.heap = h) {a : Addr} {k : ClassId} {z j x : Int32} {vs : List Value} {dv : Value} (V : Arv Z h a k .byte z vs dv) (hj : ¬ j < 0 ∧ j < z) (i : Nat) (hi : j.toNatClampNeg = i) (hl : i < vs.length)
    {g : JFrame} (hg : g.method = m) {rest : List Value} (hs : g.stack = .int x :: .int j :: .ref a :: rest) (hd : decode c.code g.pc = .ok (.bastore, 1))
    (r : ∀ T' h', Stand p l e R s m args below meth c T' (locs ++ [⟨a, j.toNatClampNeg⟩]) cells slots → T'.heap = h' → Wr h h' a j.toNatClampNeg (.int x.toInt8.toInt32) → Arv Z h' a k .byte z (vs.set i (.int x.toInt8.toInt32)) dv → own_Run p e below Φ (T'.setTop { g with pc := g.pc + 1, stack := rest })) : own_Run p e below Φ (T.setTop g) := by
  obtain ⟨cl, A, q, S, N, H, G⟩ := V
  obtain ⟨T', h', X', e', W, st⟩ := stB X hx hZ eT A (j := j) (inb_of S hj) hg hs hd
  exact own_go st (r T' h' X' e' W (Arv.set A q S N H G (fits_nar_byte _) W i hi hl))
theorem own_castore (X : Stand p l e R s m args below meth c T locs cells slots) (hx : p.tables.exec = Jvm.exec) (hZ : Z.Warmed39 s.vm) (eT : T.heap = h) {a : Addr} {k : ClassId} {z j x : Int32} {vs : List Value} {dv : Value} (V : Arv Z h a k .char z vs dv) (hj : ¬ j < 0 ∧ j < z) (i : Nat) (hi : j.toNatClampNeg = i) (hl : i < vs.length)
    {g : JFrame} (hg : g.method = m) {rest : List Value} (hs : g.stack = .int x :: .int j :: .ref a :: rest) (hd : decode c.code g.pc = .ok (.castore, 1))
    (r : ∀ T' h', Stand p l e R s m args below meth c T' (locs ++ [⟨a, j.toNatClampNeg⟩]) cells slots → T'.heap = h' → Wr h h' a j.toNatClampNeg (.int (nar .char x)) → Arv Z h' a k .char z (vs.set i (.int (nar .char x))) dv → own_Run p e below Φ (T'.setTop { g with pc := g.pc + 1, stack := rest })) : own_Run p e below Φ (T.setTop g) := by
  obtain ⟨cl, A, q, S, N, H, G⟩ := V
  obtain ⟨T', h', X', e', W, st⟩ := stC X hx hZ eT A (j := j) (inb_of S hj) hg hs hd
  exact own_go st (r T' h' X' e' W (Arv.set A q S N H G (fits_nar_char _) W i hi hl))
theorem own_newP (X : Stand p l e R s m args below meth c T locs cells slots) (hx : p.tables.exec = Jvm.exec) (hZ : Z.Warmed39 s.vm) {aty : ArrayType} (w : (Jvm.Cond.arrayClass (newarray.typeOf aty)).before a0 Z = true) (eT : T.heap = h) {g : JFrame} (hg : g.method = m) (hd : decode c.code g.pc = .ok (.newarray aty, 2)) {n : Int32} {rest : List Value} (hs : g.stack = .int n :: rest)
    (hn : ¬ n < 0) (cap : Nat) (hcap : n.toNatClampNeg ≤ cap) (hb : cap * 8 ≤ 536870912) (hc : cells + 1 ≤ R.cells) (hl : slots + cap ≤ R.slots) (N : Nat)
    (r : ∀ T' h' cA a, Stand p l e R s m args below meth c T' locs (cells + 1) (slots + cap) → T'.heap = h' → Ext h h' → a = h.size → Arv Z h' a cA (newarray.typeOf aty) n (List.replicate N (defaultValue (newarray.typeOf aty))) (defaultValue (newarray.typeOf aty)) → own_Run p e below Φ (T'.setTop { g with pc := g.pc + 2, stack := .ref a :: rest })) : own_Run p e below Φ (T.setTop g) := by
  obtain ⟨T', h', cA, X', e', E, A, st⟩ := newP X hx hZ w eT hg hd hs hn hcap hb hc hl
  have V := Arv.new A hn
  have q : ∀ i, (List.replicate N (defaultValue (newarray.typeOf aty))).getD i (defaultValue (newarray.typeOf aty)) = ([] : List Value).getD i (defaultValue (newarray.typeOf aty)) := pad_rep [] (defaultValue (newarray.typeOf aty)) N
  exact own_go st (r T' h' cA h.size X' e' E rfl (V.pad q))
theorem own_le {a b c d : Nat} (h1 : a ≤ b) (h2 : b + c ≤ d) : a + c ≤ d := Nat.le_trans (Nat.add_le_add_right h1 c) h2
/-- the case's words on statics -/
theorem own_eqI {args : Array Value} {first s : State} {o : Option Outcome} {idx : List Nat} {t : Term} {k : Int32} (h : (Jvm.Cond.eq t (.int k)).value args first o s idx = some true) : t.eval args first o idx s = some (.int k) := by
  cases ht : t.eval args first o idx s with
  | none => simp [Cond.value, ht] at h
  | some x => cases x <;> simp [Cond.value, Term.eval, ht] at h ⊢; exact h
theorem own_fldI {args : Array Value} {t : Term} {x : Addr} {C n d : String} {k : Int32} (ht : t.eval args Z none [] Z = some (.ref x)) (h : (Jvm.Cond.eq (.field t C n d) (.int k)).value args Z none Z [] = some true) : Fld Z Z.heap x C n d (.int k) := Fld.start ((fld_at ht).symm.trans (own_eqI h))
end OwnRun
def own_bs0 ( p : Int32) : Int32 := (-1 : Int32)
def own_y0 ( p : Int32) : Int32 := (0 : Int32)
theorem own_bl0 { p : Int32}  : own_y0  p = if own_bs0  p < (0 : Int32) then (0 : Int32) else (1 : Int32) := by
  rfl
def own_bs1 (x0 p : Int32) : Int32 := (if x0 < p then (-2 : Int32) else if p < x0 then (-1 : Int32) else (0 : Int32))
def own_y1 (x0 p : Int32) : Int32 := if p = x0 then (1 : Int32) else (0 : Int32)
theorem own_bl1 {x0 p : Int32}  : own_y1 x0 p = if own_bs1 x0 p < (0 : Int32) then (0 : Int32) else (1 : Int32) := by
  have t0 := Int.lt_trichotomy p.toInt x0.toInt
  have lt : ∀ a b : Int32, (a < b) = (a.toInt < b.toInt) := fun a b => by rw [Int32.lt_iff_toInt_lt]
  have eq : ∀ a b : Int32, (a = b) = (a.toInt = b.toInt) := fun a b => by rw [Int32.toInt_inj]
  rcases t0 with t0 | t0 | t0 <;> first | (exfalso; omega) | ((first | (have u0 : (p = x0) = True := eq_true (by rw [eq]; omega)) | (have u0 : (p = x0) = False := eq_false (by rw [eq]; omega))); (first | (have v0 : (x0 < p) = True := eq_true (by rw [lt]; omega)) | (have v0 : (x0 < p) = False := eq_false (by rw [lt]; omega))); (first | (have w0 : (p < x0) = True := eq_true (by rw [lt]; omega)) | (have w0 : (p < x0) = False := eq_false (by rw [lt]; omega))); simp only [own_y1, own_bs1, u0, v0, w0, if_true, if_false]; rfl)
def own_bs2 (x0 x1 p : Int32) : Int32 := (if x0 < p then (if x1 < p then (-3 : Int32) else if p < x1 then (-2 : Int32) else (1 : Int32)) else if p < x0 then (-1 : Int32) else (0 : Int32))
def own_y2 (x0 x1 p : Int32) : Int32 := if p = x0 then (1 : Int32) else if p = x1 then (1 : Int32) else (0 : Int32)
theorem own_bl2 {x0 x1 p : Int32} (h0 : x0.toInt < x1.toInt) : own_y2 x0 x1 p = if own_bs2 x0 x1 p < (0 : Int32) then (0 : Int32) else (1 : Int32) := by
  have t0 := Int.lt_trichotomy p.toInt x0.toInt
  have t1 := Int.lt_trichotomy p.toInt x1.toInt
  have lt : ∀ a b : Int32, (a < b) = (a.toInt < b.toInt) := fun a b => by rw [Int32.lt_iff_toInt_lt]
  have eq : ∀ a b : Int32, (a = b) = (a.toInt = b.toInt) := fun a b => by rw [Int32.toInt_inj]
  rcases t0 with t0 | t0 | t0 <;> rcases t1 with t1 | t1 | t1 <;> first | (exfalso; omega) | ((first | (have u0 : (p = x0) = True := eq_true (by rw [eq]; omega)) | (have u0 : (p = x0) = False := eq_false (by rw [eq]; omega))); (first | (have u1 : (p = x1) = True := eq_true (by rw [eq]; omega)) | (have u1 : (p = x1) = False := eq_false (by rw [eq]; omega))); (first | (have v0 : (x0 < p) = True := eq_true (by rw [lt]; omega)) | (have v0 : (x0 < p) = False := eq_false (by rw [lt]; omega))); (first | (have v1 : (x1 < p) = True := eq_true (by rw [lt]; omega)) | (have v1 : (x1 < p) = False := eq_false (by rw [lt]; omega))); (first | (have w0 : (p < x0) = True := eq_true (by rw [lt]; omega)) | (have w0 : (p < x0) = False := eq_false (by rw [lt]; omega))); (first | (have w1 : (p < x1) = True := eq_true (by rw [lt]; omega)) | (have w1 : (p < x1) = False := eq_false (by rw [lt]; omega))); simp only [own_y2, own_bs2, u0, v0, w0, u1, v1, w1, if_true, if_false]; rfl)
def own_bs3 (x0 x1 x2 p : Int32) : Int32 := (if x1 < p then (if x2 < p then (-4 : Int32) else if p < x2 then (-3 : Int32) else (2 : Int32)) else if p < x1 then (if x0 < p then (-2 : Int32) else if p < x0 then (-1 : Int32) else (0 : Int32)) else (1 : Int32))
def own_y3 (x0 x1 x2 p : Int32) : Int32 := if p = x0 then (1 : Int32) else if p = x1 then (1 : Int32) else if p = x2 then (1 : Int32) else (0 : Int32)
theorem own_bl3 {x0 x1 x2 p : Int32} (h0 : x0.toInt < x1.toInt) (h1 : x1.toInt < x2.toInt) : own_y3 x0 x1 x2 p = if own_bs3 x0 x1 x2 p < (0 : Int32) then (0 : Int32) else (1 : Int32) := by
  have t0 := Int.lt_trichotomy p.toInt x0.toInt
  have t1 := Int.lt_trichotomy p.toInt x1.toInt
  have t2 := Int.lt_trichotomy p.toInt x2.toInt
  have lt : ∀ a b : Int32, (a < b) = (a.toInt < b.toInt) := fun a b => by rw [Int32.lt_iff_toInt_lt]
  have eq : ∀ a b : Int32, (a = b) = (a.toInt = b.toInt) := fun a b => by rw [Int32.toInt_inj]
  rcases t0 with t0 | t0 | t0 <;> rcases t1 with t1 | t1 | t1 <;> rcases t2 with t2 | t2 | t2 <;> first | (exfalso; omega) | ((first | (have u0 : (p = x0) = True := eq_true (by rw [eq]; omega)) | (have u0 : (p = x0) = False := eq_false (by rw [eq]; omega))); (first | (have u1 : (p = x1) = True := eq_true (by rw [eq]; omega)) | (have u1 : (p = x1) = False := eq_false (by rw [eq]; omega))); (first | (have u2 : (p = x2) = True := eq_true (by rw [eq]; omega)) | (have u2 : (p = x2) = False := eq_false (by rw [eq]; omega))); (first | (have v0 : (x0 < p) = True := eq_true (by rw [lt]; omega)) | (have v0 : (x0 < p) = False := eq_false (by rw [lt]; omega))); (first | (have v1 : (x1 < p) = True := eq_true (by rw [lt]; omega)) | (have v1 : (x1 < p) = False := eq_false (by rw [lt]; omega))); (first | (have v2 : (x2 < p) = True := eq_true (by rw [lt]; omega)) | (have v2 : (x2 < p) = False := eq_false (by rw [lt]; omega))); (first | (have w0 : (p < x0) = True := eq_true (by rw [lt]; omega)) | (have w0 : (p < x0) = False := eq_false (by rw [lt]; omega))); (first | (have w1 : (p < x1) = True := eq_true (by rw [lt]; omega)) | (have w1 : (p < x1) = False := eq_false (by rw [lt]; omega))); (first | (have w2 : (p < x2) = True := eq_true (by rw [lt]; omega)) | (have w2 : (p < x2) = False := eq_false (by rw [lt]; omega))); simp only [own_y3, own_bs3, u0, v0, w0, u1, v1, w1, u2, v2, w2, if_true, if_false]; rfl)
def own_bs4 (x0 x1 x2 x3 p : Int32) : Int32 := (if x1 < p then (if x2 < p then (if x3 < p then (-5 : Int32) else if p < x3 then (-4 : Int32) else (3 : Int32)) else if p < x2 then (-3 : Int32) else (2 : Int32)) else if p < x1 then (if x0 < p then (-2 : Int32) else if p < x0 then (-1 : Int32) else (0 : Int32)) else (1 : Int32))
def own_y4 (x0 x1 x2 x3 p : Int32) : Int32 := if p = x0 then (1 : Int32) else if p = x1 then (1 : Int32) else if p = x2 then (1 : Int32) else if p = x3 then (1 : Int32) else (0 : Int32)
theorem own_bl4 {x0 x1 x2 x3 p : Int32} (h0 : x0.toInt < x1.toInt) (h1 : x1.toInt < x2.toInt) (h2 : x2.toInt < x3.toInt) : own_y4 x0 x1 x2 x3 p = if own_bs4 x0 x1 x2 x3 p < (0 : Int32) then (0 : Int32) else (1 : Int32) := by
  have t0 := Int.lt_trichotomy p.toInt x0.toInt
  have t1 := Int.lt_trichotomy p.toInt x1.toInt
  have t2 := Int.lt_trichotomy p.toInt x2.toInt
  have t3 := Int.lt_trichotomy p.toInt x3.toInt
  have lt : ∀ a b : Int32, (a < b) = (a.toInt < b.toInt) := fun a b => by rw [Int32.lt_iff_toInt_lt]
  have eq : ∀ a b : Int32, (a = b) = (a.toInt = b.toInt) := fun a b => by rw [Int32.toInt_inj]
  rcases t0 with t0 | t0 | t0 <;> rcases t1 with t1 | t1 | t1 <;> rcases t2 with t2 | t2 | t2 <;> rcases t3 with t3 | t3 | t3 <;> first | (exfalso; omega) | ((first | (have u0 : (p = x0) = True := eq_true (by rw [eq]; omega)) | (have u0 : (p = x0) = False := eq_false (by rw [eq]; omega))); (first | (have u1 : (p = x1) = True := eq_true (by rw [eq]; omega)) | (have u1 : (p = x1) = False := eq_false (by rw [eq]; omega))); (first | (have u2 : (p = x2) = True := eq_true (by rw [eq]; omega)) | (have u2 : (p = x2) = False := eq_false (by rw [eq]; omega))); (first | (have u3 : (p = x3) = True := eq_true (by rw [eq]; omega)) | (have u3 : (p = x3) = False := eq_false (by rw [eq]; omega))); (first | (have v0 : (x0 < p) = True := eq_true (by rw [lt]; omega)) | (have v0 : (x0 < p) = False := eq_false (by rw [lt]; omega))); (first | (have v1 : (x1 < p) = True := eq_true (by rw [lt]; omega)) | (have v1 : (x1 < p) = False := eq_false (by rw [lt]; omega))); (first | (have v2 : (x2 < p) = True := eq_true (by rw [lt]; omega)) | (have v2 : (x2 < p) = False := eq_false (by rw [lt]; omega))); (first | (have v3 : (x3 < p) = True := eq_true (by rw [lt]; omega)) | (have v3 : (x3 < p) = False := eq_false (by rw [lt]; omega))); (first | (have w0 : (p < x0) = True := eq_true (by rw [lt]; omega)) | (have w0 : (p < x0) = False := eq_false (by rw [lt]; omega))); (first | (have w1 : (p < x1) = True := eq_true (by rw [lt]; omega)) | (have w1 : (p < x1) = False := eq_false (by rw [lt]; omega))); (first | (have w2 : (p < x2) = True := eq_true (by rw [lt]; omega)) | (have w2 : (p < x2) = False := eq_false (by rw [lt]; omega))); (first | (have w3 : (p < x3) = True := eq_true (by rw [lt]; omega)) | (have w3 : (p < x3) = False := eq_false (by rw [lt]; omega))); simp only [own_y4, own_bs4, u0, v0, w0, u1, v1, w1, u2, v2, w2, u3, v3, w3, if_true, if_false]; rfl)
theorem own_n (x : Int32) : (x &&& (7 : Int32)) % (5 : Int32) = (0 : Int32) ∨ (x &&& (7 : Int32)) % (5 : Int32) = (1 : Int32) ∨ (x &&& (7 : Int32)) % (5 : Int32) = (2 : Int32) ∨ (x &&& (7 : Int32)) % (5 : Int32) = (3 : Int32) ∨ (x &&& (7 : Int32)) % (5 : Int32) = (4 : Int32) := by
  have h := c_mask x 7 3 (by decide) (by decide)
  have h2 := (c_irem (x &&& (7 : Int32)) 5 5 (by decide)).1 (by omega)
  simp only [← Int32.toInt_inj, Int32.reduceToInt]
  omega
theorem own_up (a : Int64) (g : Int32) (h1 : -2147483648 ≤ a.toInt) (h2 : a.toInt < 4294967296) : (a + (1 : Int64) + (g &&& (65535 : Int32)).toInt64).toInt = a.toInt + 1 + (g &&& (65535 : Int32)).toInt ∧ 0 ≤ (g &&& (65535 : Int32)).toInt ∧ (g &&& (65535 : Int32)).toInt ≤ 65535 := by
  have m := c_mask g 65535 16 (by decide) (by decide)
  have s1 := c_ladd a (1 : Int64)
  have s2 := c_ladd (a + (1 : Int64)) (g &&& (65535 : Int32)).toInt64
  have r1 := rng64 (a + (1 : Int64)); have r2 := rng64 (a + (1 : Int64) + (g &&& (65535 : Int32)).toInt64)
  rw [c_i2l] at s2
  simp only [Int64.reduceToInt] at s1
  omega
theorem own_top (a : Int64) (h : ¬ (0 : Int32) < lcmpW a (2147483647 : Int64)) : a.toInt ≤ 2147483647 := by
  rw [lw_gt, Int64.lt_iff_toInt_lt] at h; simp only [Int64.reduceToInt] at h; omega
theorem own_dn (a : Int64) (h1 : -2147483648 ≤ a.toInt) (h2 : a.toInt ≤ 2147483647) : a.toInt32.toInt = a.toInt := by
  have := c_l2i a; have := rng32 a.toInt32; omega
theorem d5_0 : decode jdk_65_method_30_code 0 = .ok (.iload_n 1, 1) := by decide +kernel
theorem d5_1 : decode jdk_65_method_30_code 1 = .ok (.iload_n 2, 1) := by decide +kernel
theorem d5_2 : decode jdk_65_method_30_code 2 = .ok (.if_icmp .le 44, 3) := by decide +kernel
theorem d5_46 : decode jdk_65_method_30_code 46 = .ok (.iload_n 1, 1) := by decide +kernel
theorem d5_47 : decode jdk_65_method_30_code 47 = .ok (.ifCond .ge 12, 3) := by decide +kernel
theorem d5_59 : decode jdk_65_method_30_code 59 = .ok (.iload_n 2, 1) := by decide +kernel
theorem d5_60 : decode jdk_65_method_30_code 60 = .ok (.iload_n 0, 1) := by decide +kernel
theorem d5_61 : decode jdk_65_method_30_code 61 = .ok (.if_icmp .le 12, 3) := by decide +kernel
theorem d5_73 : decode jdk_65_method_30_code 73 = .ok (.return_, 1) := by decide +kernel
theorem pn_c3 : plainName "java/util/Arrays" = true := by first | (simp [plainName, overriddenIn]; done) | decide +kernel
theorem ef_5_III (m : MethodId) (x0 : Int32) (x1 : Int32) (x2 : Int32) : entryFrame m #[(.int x0), (.int x1), (.int x2)] 3 = mkF m 0 #[.val (.int x0), .val (.int x1), .val (.int x2)] [] := by first | (simp [entryFrame, mkF, argsToLocals, Value.category]; done) | rfl
set_option maxRecDepth 65536 in
set_option maxHeartbeats 40000000 in
theorem rm_rc0 (l : Launch) (Z : State) (a0 : Array Value) (hw : ∀ d ∈ tables_1, d.before a0 Z = true)  (h0 : Heap) (n0 : Nat)  :
    own_Met l Z (⟨"java/util/Arrays", "rangeCheck", "(III)V"⟩ : MethodName) jdk_65_method_30_code 3 none ({ frames := 0, cells := 0, slots := 0, locals := 0 } : Room) #[(.int (5 : Int32)), (.int (0 : Int32)), (.int (0 : Int32))] h0 (fun v h L => v = none ∧ Fr n0 L ∧ h = h0) := by
  intro ws
  refine MetFree.of_bodySF (plainFor_of_name pn_c3) hisR ?_
  intro p e s m args below meth c s₁ Bd hml0 hP hK
  obtain ⟨rfl, hZ, hh⟩ := hP
  have hx := Bd.exec
  have hby := Bd.bytes
  have hml : c.maxLocals = 3 := hml0
  have hown : s.vm.findClass "java/util/Arrays" = some m.cls := findClass_of_methodNamed Bd.named
  have hnm := (name_of_methodNamed Bd.named Bd.method).1
  have hlk : meth.locks = false := Bd.notSynchronized
  have X0 : Stand p l e ({ frames := 0, cells := 0, slots := 0, locals := 0 } : Room) s m #[(.int (5 : Int32)), (.int (0 : Int32)), (.int (0 : Int32))] below meth c s₁ [] 0 0 := Stand.of_body Bd
  have e0 : s₁.heap = h0 := by rw [← hh, Bd.state]; rfl
  have N0 := Fr.nil n0
  refine own_body (Q := fun v h L => v = none ∧ Fr n0 L ∧ h = h0) ?_
  generalize hΦ : own_Fin s below _ _ _ = Φ
  refine own_cast (ef_5_III m (5 : Int32) (0 : Int32) (0 : Int32)) ?_
  show own_Run p e below Φ (s₁.setTop (mkF m 0 #[.val (.int (5 : Int32)), .val (.int (0 : Int32)), .val (.int (0 : Int32))] []))
  refine own_go (fun t k => XS.iloadN X0.here hx rfl (hb hby d5_0) rfl  k) ?_
  refine own_go (fun t k => XS.iloadN X0.here hx rfl (hb hby d5_1) rfl  k) ?_
  refine own_go (fun t k => XS.icmpYes X0.here hx rfl (pc0 := 2) (pc' := 46) rfl (hb hby d5_2) rfl (flt (by decide : ¬ ((0 : Int32) < (0 : Int32)))).2.2.2 (by decide) (by decide) k) ?_
  refine own_go (fun t k => XS.iloadN X0.here hx rfl (hb hby d5_46) rfl  k) ?_
  refine own_go (fun t k => XS.ifYes X0.here hx rfl (pc0 := 47) (pc' := 59) rfl (hb hby d5_47) rfl ((if0 _ _).trans (flt (by decide : ¬ ((0 : Int32) < (0 : Int32)))).2.1) (by decide) (by decide) k) ?_
  show own_Run p e below Φ (s₁.setTop (mkF m 59 #[.val (.int (5 : Int32)), .val (.int (0 : Int32)), .val (.int (0 : Int32))] []))
  refine own_go (fun t k => XS.iloadN X0.here hx rfl (hb hby d5_59) rfl  k) ?_
  refine own_go (fun t k => XS.iloadN X0.here hx rfl (hb hby d5_60) rfl  k) ?_
  refine own_go (fun t k => XS.icmpYes X0.here hx rfl (pc0 := 61) (pc' := 73) rfl (hb hby d5_61) rfl (flt (by decide : ¬ ((5 : Int32) < (0 : Int32)))).2.2.2 (by decide) (by decide) k) ?_
  subst hΦ
  exact own_retV X0 hx Bd.returns hlk (hb hby d5_73) e0 ⟨rfl, N0, rfl⟩ (by decide) (by decide)
theorem d6_0 : decode jdk_65_method_59_code 0 = .ok (.iload_n 1, 1) := by decide +kernel
theorem d6_1 : decode jdk_65_method_59_code 1 = .ok (.istore 4, 2) := by decide +kernel
theorem d6_3 : decode jdk_65_method_59_code 3 = .ok (.iload_n 2, 1) := by decide +kernel
theorem d6_4 : decode jdk_65_method_59_code 4 = .ok (.iconst 1, 1) := by decide +kernel
theorem d6_5 : decode jdk_65_method_59_code 5 = .ok (.isub, 1) := by decide +kernel
theorem d6_6 : decode jdk_65_method_59_code 6 = .ok (.istore 5, 2) := by decide +kernel
theorem d6_8 : decode jdk_65_method_59_code 8 = .ok (.iload 4, 2) := by decide +kernel
theorem d6_10 : decode jdk_65_method_59_code 10 = .ok (.iload 5, 2) := by decide +kernel
theorem d6_12 : decode jdk_65_method_59_code 12 = .ok (.if_icmp .gt 54, 3) := by decide +kernel
theorem d6_66 : decode jdk_65_method_59_code 66 = .ok (.iload 4, 2) := by decide +kernel
theorem d6_68 : decode jdk_65_method_59_code 68 = .ok (.iconst 1, 1) := by decide +kernel
theorem d6_69 : decode jdk_65_method_59_code 69 = .ok (.iadd, 1) := by decide +kernel
theorem d6_70 : decode jdk_65_method_59_code 70 = .ok (.ineg, 1) := by decide +kernel
theorem d6_71 : decode jdk_65_method_59_code 71 = .ok (.ireturn, 1) := by decide +kernel
theorem ef_6_RIII (m : MethodId) (x0 : Addr) (x1 : Int32) (x2 : Int32) (x3 : Int32) : entryFrame m #[(.ref x0), (.int x1), (.int x2), (.int x3)] 8 = mkF m 0 #[.val (.ref x0), .val (.int x1), .val (.int x2), .val (.int x3), .unset, .unset, .unset, .unset] [] := by first | (simp [entryFrame, mkF, argsToLocals, Value.category]; done) | rfl
set_option maxRecDepth 65536 in
set_option maxHeartbeats 40000000 in
theorem rm_bz0 (l : Launch) (Z : State) (a0 : Array Value) (hw : ∀ d ∈ tables_1, d.before a0 Z = true) (a1 : Addr) (p4 : Int32) (k1 : ClassId) (x0 : Int32) (x1 : Int32) (x2 : Int32) (x3 : Int32) (x4 : Int32) (h0 : Heap) (n0 : Nat) (H1 : Arv Z h0 a1 k1 .int (5 : Int32) [(.int x0), (.int x1), (.int x2), (.int x3), (.int x4)] (.int (0 : Int32))) :
    own_Met l Z (⟨"java/util/Arrays", "binarySearch0", "([IIII)I"⟩ : MethodName) jdk_65_method_59_code 8 (some .int) ({ frames := 0, cells := 0, slots := 0, locals := 0 } : Room) #[(.ref a1), (.int (0 : Int32)), (.int (0 : Int32)), (.int p4)] h0 (fun v h L => v = some (.int (own_bs0  p4)) ∧ Fr n0 L ∧ h = h0) := by
  intro ws
  refine MetFree.of_bodySF (plainFor_of_name pn_c3) hisR ?_
  intro p e s m args below meth c s₁ Bd hml0 hP hK
  obtain ⟨rfl, hZ, hh⟩ := hP
  have hx := Bd.exec
  have hby := Bd.bytes
  have hml : c.maxLocals = 8 := hml0
  have hown : s.vm.findClass "java/util/Arrays" = some m.cls := findClass_of_methodNamed Bd.named
  have hnm := (name_of_methodNamed Bd.named Bd.method).1
  have hlk : meth.locks = false := Bd.notSynchronized
  have X0 : Stand p l e ({ frames := 0, cells := 0, slots := 0, locals := 0 } : Room) s m #[(.ref a1), (.int (0 : Int32)), (.int (0 : Int32)), (.int p4)] below meth c s₁ [] 0 0 := Stand.of_body Bd
  have e0 : s₁.heap = h0 := by rw [← hh, Bd.state]; rfl
  have N0 := Fr.nil n0
  refine own_body (Q := fun v h L => v = some (.int (own_bs0  p4)) ∧ Fr n0 L ∧ h = h0) ?_
  generalize hΦ : own_Fin s below _ _ _ = Φ
  refine own_cast (ef_6_RIII m a1 (0 : Int32) (0 : Int32) p4) ?_
  show own_Run p e below Φ (s₁.setTop (mkF m 0 #[.val (.ref a1), .val (.int (0 : Int32)), .val (.int (0 : Int32)), .val (.int p4), .unset, .unset, .unset, .unset] []))
  refine own_go (fun t k => XS.iloadN X0.here hx rfl (hb hby d6_0) rfl  k) ?_
  refine own_go (fun t k => XS.istore X0.here hx rfl (hb hby d6_1) rfl (l' := #[.val (.ref a1), .val (.int (0 : Int32)), .val (.int (0 : Int32)), .val (.int p4), .val (.int (0 : Int32)), .unset, .unset, .unset]) rfl k) ?_
  refine own_go (fun t k => XS.iloadN X0.here hx rfl (hb hby d6_3) rfl  k) ?_
  refine own_go (fun t k => XS.iconst X0.here hx rfl (hb hby d6_4) k) ?_
  refine own_go (fun t k => XS.isub X0.here hx rfl (hb hby d6_5) rfl k) ?_
  show own_Run p e below Φ (s₁.setTop (mkF m 6 #[.val (.ref a1), .val (.int (0 : Int32)), .val (.int (0 : Int32)), .val (.int p4), .val (.int (0 : Int32)), .unset, .unset, .unset] [(.int ((0 : Int32) - (1 : Int32)))]))
  rw [show ((0 : Int32) - (1 : Int32)) = (-1 : Int32) from by decide]
  show own_Run p e below Φ (s₁.setTop (mkF m 6 #[.val (.ref a1), .val (.int (0 : Int32)), .val (.int (0 : Int32)), .val (.int p4), .val (.int (0 : Int32)), .unset, .unset, .unset] [(.int (-1 : Int32))]))
  refine own_go (fun t k => XS.istore X0.here hx rfl (hb hby d6_6) rfl (l' := #[.val (.ref a1), .val (.int (0 : Int32)), .val (.int (0 : Int32)), .val (.int p4), .val (.int (0 : Int32)), .val (.int (-1 : Int32)), .unset, .unset]) rfl k) ?_
  refine own_go (fun t k => XS.iload X0.here hx rfl (hb hby d6_8) rfl  k) ?_
  refine own_go (fun t k => XS.iload X0.here hx rfl (hb hby d6_10) rfl  k) ?_
  refine own_go (fun t k => XS.icmpYes X0.here hx rfl (pc0 := 12) (pc' := 66) rfl (hb hby d6_12) rfl (tlt (by decide : (-1 : Int32) < (0 : Int32))).2.2.1 (by decide) (by decide) k) ?_
  refine own_go (fun t k => XS.iload X0.here hx rfl (hb hby d6_66) rfl  k) ?_
  show own_Run p e below Φ (s₁.setTop (mkF m 68 #[.val (.ref a1), .val (.int (0 : Int32)), .val (.int (0 : Int32)), .val (.int p4), .val (.int (0 : Int32)), .val (.int (-1 : Int32)), .unset, .unset] [(.int (0 : Int32))]))
  refine own_go (fun t k => XS.iconst X0.here hx rfl (hb hby d6_68) k) ?_
  refine own_go (fun t k => XS.iadd X0.here hx rfl (hb hby d6_69) rfl k) ?_
  show own_Run p e below Φ (s₁.setTop (mkF m 70 #[.val (.ref a1), .val (.int (0 : Int32)), .val (.int (0 : Int32)), .val (.int p4), .val (.int (0 : Int32)), .val (.int (-1 : Int32)), .unset, .unset] [(.int ((0 : Int32) + (1 : Int32)))]))
  rw [show ((0 : Int32) + (1 : Int32)) = (1 : Int32) from by decide]
  show own_Run p e below Φ (s₁.setTop (mkF m 70 #[.val (.ref a1), .val (.int (0 : Int32)), .val (.int (0 : Int32)), .val (.int p4), .val (.int (0 : Int32)), .val (.int (-1 : Int32)), .unset, .unset] [(.int (1 : Int32))]))
  refine own_go (fun t k => XS.ineg X0.here hx rfl (hb hby d6_70) rfl k) ?_
  show own_Run p e below Φ (s₁.setTop (mkF m 71 #[.val (.ref a1), .val (.int (0 : Int32)), .val (.int (0 : Int32)), .val (.int p4), .val (.int (0 : Int32)), .val (.int (-1 : Int32)), .unset, .unset] [(.int (-(1 : Int32)))]))
  rw [show (-(1 : Int32)) = (-1 : Int32) from by decide]
  show own_Run p e below Φ (s₁.setTop (mkF m 71 #[.val (.ref a1), .val (.int (0 : Int32)), .val (.int (0 : Int32)), .val (.int p4), .val (.int (0 : Int32)), .val (.int (-1 : Int32)), .unset, .unset] [(.int (-1 : Int32))]))
  subst hΦ
  exact own_retI X0 hx Bd.returns hlk (hb hby d6_71) e0 ⟨(by simp only [own_bs0, if_true, if_false]), N0, rfl⟩ (by decide) (by decide)
theorem d4_0 : decode jdk_65_method_58_code 0 = .ok (.aload_n 0, 1) := by decide +kernel
theorem d4_1 : decode jdk_65_method_58_code 1 = .ok (.arraylength, 1) := by decide +kernel
theorem d4_2 : decode jdk_65_method_58_code 2 = .ok (.iload_n 1, 1) := by decide +kernel
theorem d4_3 : decode jdk_65_method_58_code 3 = .ok (.iload_n 2, 1) := by decide +kernel
theorem d4_4 : decode jdk_65_method_58_code 4 = .ok (.invokestatic 13, 3) := by decide +kernel
theorem d4_7 : decode jdk_65_method_58_code 7 = .ok (.aload_n 0, 1) := by decide +kernel
theorem d4_8 : decode jdk_65_method_58_code 8 = .ok (.iload_n 1, 1) := by decide +kernel
theorem d4_9 : decode jdk_65_method_58_code 9 = .ok (.iload_n 2, 1) := by decide +kernel
theorem d4_10 : decode jdk_65_method_58_code 10 = .ok (.iload_n 3, 1) := by decide +kernel
theorem d4_11 : decode jdk_65_method_58_code 11 = .ok (.invokestatic 209, 3) := by decide +kernel
theorem d4_14 : decode jdk_65_method_58_code 14 = .ok (.ireturn, 1) := by decide +kernel
theorem pd_4 : parseMethodDescriptor "(III)V" = some ⟨[.int, .int, .int], none⟩ := by decide +kernel
theorem pd_3 : parseMethodDescriptor "([IIII)I" = some ⟨[(.array .int), .int, .int, .int], some .int⟩ := by decide +kernel
theorem ef_4_RIII (m : MethodId) (x0 : Addr) (x1 : Int32) (x2 : Int32) (x3 : Int32) : entryFrame m #[(.ref x0), (.int x1), (.int x2), (.int x3)] 4 = mkF m 0 #[.val (.ref x0), .val (.int x1), .val (.int x2), .val (.int x3)] [] := by first | (simp [entryFrame, mkF, argsToLocals, Value.category]; done) | rfl
set_option maxRecDepth 65536 in
set_option maxHeartbeats 40000000 in
theorem rm_bs0 (l : Launch) (Z : State) (a0 : Array Value) (hw : ∀ d ∈ tables_1, d.before a0 Z = true) (a1 : Addr) (p4 : Int32) (k1 : ClassId) (x0 : Int32) (x1 : Int32) (x2 : Int32) (x3 : Int32) (x4 : Int32) (h0 : Heap) (n0 : Nat) (H1 : Arv Z h0 a1 k1 .int (5 : Int32) [(.int x0), (.int x1), (.int x2), (.int x3), (.int x4)] (.int (0 : Int32))) :
    own_Met l Z (⟨"java/util/Arrays", "binarySearch", "([IIII)I"⟩ : MethodName) jdk_65_method_58_code 4 (some .int) ({ frames := 1, cells := 0, slots := 0, locals := 19 } : Room) #[(.ref a1), (.int (0 : Int32)), (.int (0 : Int32)), (.int p4)] h0 (fun v h L => v = some (.int (own_bs0  p4)) ∧ Fr n0 L ∧ h = h0) := by
  intro ws
  refine MetFree.of_bodySF (plainFor_of_name pn_c3) hisR ?_
  intro p e s m args below meth c s₁ Bd hml0 hP hK
  obtain ⟨rfl, hZ, hh⟩ := hP
  have hx := Bd.exec
  have hby := Bd.bytes
  have hml : c.maxLocals = 4 := hml0
  have hown : s.vm.findClass "java/util/Arrays" = some m.cls := findClass_of_methodNamed Bd.named
  have hnm := (name_of_methodNamed Bd.named Bd.method).1
  have hlk : meth.locks = false := Bd.notSynchronized
  have X0 : Stand p l e ({ frames := 1, cells := 0, slots := 0, locals := 19 } : Room) s m #[(.ref a1), (.int (0 : Int32)), (.int (0 : Int32)), (.int p4)] below meth c s₁ [] 0 0 := Stand.of_body Bd
  have e0 : s₁.heap = h0 := by rw [← hh, Bd.state]; rfl
  have N0 := Fr.nil n0
  refine own_body (Q := fun v h L => v = some (.int (own_bs0  p4)) ∧ Fr n0 L ∧ h = h0) ?_
  generalize hΦ : own_Fin s below _ _ _ = Φ
  refine own_cast (ef_4_RIII m a1 (0 : Int32) (0 : Int32) p4) ?_
  show own_Run p e below Φ (s₁.setTop (mkF m 0 #[.val (.ref a1), .val (.int (0 : Int32)), .val (.int (0 : Int32)), .val (.int p4)] []))
  refine own_go (fun t k => XS.aloadN X0.here hx rfl (hb hby d4_0) rfl rfl  k) ?_
  refine own_arrlen X0 hx hZ e0 H1 (g := (mkF m 1 #[.val (.ref a1), .val (.int (0 : Int32)), .val (.int (0 : Int32)), .val (.int p4)] [(.ref a1)])) rfl rfl (hb hby d4_1) ?_
  refine own_go (fun t k => XS.iloadN X0.here hx rfl (hb hby d4_2) rfl  k) ?_
  refine own_go (fun t k => XS.iloadN X0.here hx rfl (hb hby d4_3) rfl  k) ?_
  refine own_callS X0 hx hZ (y := (⟨"java/util/Arrays", "rangeCheck", "(III)V"⟩ : MethodName)) (W := 0) (argsL := [(.int (5 : Int32)), (.int (0 : Int32)), (.int (0 : Int32))]) (rest := []) hown (hw _ (List.mem_of_getElem? (i := 26) rfl)) (hw _ (List.mem_of_getElem? (i := 27) rfl)) (hw _ (List.mem_of_getElem? (i := 24) rfl)) (hw _ (List.mem_of_getElem? (i := 28) rfl)) (by decide) (own_bk (rm_rc0 l Z a0 hw  h0 n0 ) hZ (hw _ (List.mem_of_getElem? (i := 28) rfl)) (hw _ (List.mem_of_getElem? (i := 24) rfl)) (by decide) (by decide)) e0 (g := (mkF m 4 #[.val (.ref a1), .val (.int (0 : Int32)), .val (.int (0 : Int32)), .val (.int p4)] [(.int (0 : Int32)), (.int (0 : Int32)), (.int (5 : Int32))])) rfl (by rw [hml]; rfl) (lenOf pd_4 rfl) rfl (by show 2 * 0 + _ ≤ _; exact Nat.le_of_eq rfl) (hb hby d4_4) (by decide) (by decide) (fun v1 T1 h1 L1 X1 e1 q1 => ?_)
  obtain ⟨rfl, M1, s1⟩ := q1
  replace e1 : T1.heap = h0 := e1.trans s1
  have N1 := Fr.app N0 M1
  show own_Run p e below Φ (T1.setTop (mkF m 7 #[.val (.ref a1), .val (.int (0 : Int32)), .val (.int (0 : Int32)), .val (.int p4)] []))
  refine own_go (fun t k => XS.aloadN X1.here hx rfl (hb hby d4_7) rfl rfl  k) ?_
  refine own_go (fun t k => XS.iloadN X1.here hx rfl (hb hby d4_8) rfl  k) ?_
  refine own_go (fun t k => XS.iloadN X1.here hx rfl (hb hby d4_9) rfl  k) ?_
  refine own_go (fun t k => XS.iloadN X1.here hx rfl (hb hby d4_10) rfl  k) ?_
  refine own_callS X1 hx hZ (y := (⟨"java/util/Arrays", "binarySearch0", "([IIII)I"⟩ : MethodName)) (W := 0) (argsL := [(.ref a1), (.int (0 : Int32)), (.int (0 : Int32)), (.int p4)]) (rest := []) hown (hw _ (List.mem_of_getElem? (i := 29) rfl)) (hw _ (List.mem_of_getElem? (i := 30) rfl)) (hw _ (List.mem_of_getElem? (i := 24) rfl)) (hw _ (List.mem_of_getElem? (i := 31) rfl)) (by decide) (own_bk (rm_bz0 l Z a0 hw a1 p4 k1 x0 x1 x2 x3 x4 h0 n0 H1) hZ (hw _ (List.mem_of_getElem? (i := 31) rfl)) (hw _ (List.mem_of_getElem? (i := 24) rfl)) (by decide) (by decide)) e1 (g := (mkF m 11 #[.val (.ref a1), .val (.int (0 : Int32)), .val (.int (0 : Int32)), .val (.int p4)] [(.int p4), (.int (0 : Int32)), (.int (0 : Int32)), (.ref a1)])) rfl (by rw [hml]; rfl) (lenOf pd_3 rfl) rfl (by show 2 * 0 + _ ≤ _; exact Nat.le_of_eq rfl) (hb hby d4_11) (by decide) (by decide) (fun v2 T2 h2 L2 X2 e2 q2 => ?_)
  obtain ⟨rfl, M2, s2⟩ := q2
  replace e2 : T2.heap = h0 := e2.trans s2
  have N2 := Fr.app N1 M2
  show own_Run p e below Φ (T2.setTop (mkF m 14 #[.val (.ref a1), .val (.int (0 : Int32)), .val (.int (0 : Int32)), .val (.int p4)] [(.int (own_bs0  p4))]))
  subst hΦ
  exact own_retI X2 hx Bd.returns hlk (hb hby d4_14) e2 ⟨rfl, N2, rfl⟩ (by decide) (by decide)
theorem d3_0 : decode prog_22_method_5_code 0 = .ok (.aload_n 0, 1) := by decide +kernel
theorem d3_1 : decode prog_22_method_5_code 1 = .ok (.getfield 7, 3) := by decide +kernel
theorem d3_4 : decode prog_22_method_5_code 4 = .ok (.iconst 0, 1) := by decide +kernel
theorem d3_5 : decode prog_22_method_5_code 5 = .ok (.aload_n 0, 1) := by decide +kernel
theorem d3_6 : decode prog_22_method_5_code 6 = .ok (.getfield 16, 3) := by decide +kernel
theorem d3_9 : decode prog_22_method_5_code 9 = .ok (.iload_n 1, 1) := by decide +kernel
theorem d3_10 : decode prog_22_method_5_code 10 = .ok (.invokestatic 60, 3) := by decide +kernel
theorem d3_13 : decode prog_22_method_5_code 13 = .ok (.ifCond .lt 7, 3) := by decide +kernel
theorem d3_16 : decode prog_22_method_5_code 16 = .ok (.iconst 1, 1) := by decide +kernel
theorem d3_17 : decode prog_22_method_5_code 17 = .ok (.goto 4, 3) := by decide +kernel
theorem d3_20 : decode prog_22_method_5_code 20 = .ok (.iconst 0, 1) := by decide +kernel
theorem d3_21 : decode prog_22_method_5_code 21 = .ok (.ireturn, 1) := by decide +kernel
theorem pn_c1 : plainName "com/example/glossyn/glossyn/index/Postings" = true := by first | (simp [plainName, overriddenIn]; done) | decide +kernel
theorem ef_3_RI (m : MethodId) (x0 : Addr) (x1 : Int32) : entryFrame m #[(.ref x0), (.int x1)] 2 = mkF m 0 #[.val (.ref x0), .val (.int x1)] [] := by first | (simp [entryFrame, mkF, argsToLocals, Value.category]; done) | rfl
set_option maxRecDepth 65536 in
set_option maxHeartbeats 40000000 in
theorem rm_cn0 (l : Launch) (Z : State) (a0 : Array Value) (hw : ∀ d ∈ tables_1, d.before a0 Z = true) (a1 : Addr) (p2 : Int32) (a3 : Addr) (k3 : ClassId) (x0 : Int32) (x1 : Int32) (x2 : Int32) (x3 : Int32) (x4 : Int32) (h0 : Heap) (n0 : Nat) (H1 : Fld Z h0 a1 "com/example/glossyn/glossyn/index/Postings" "documents" "[I" (.ref a3)) (H2 : Fld Z h0 a1 "com/example/glossyn/glossyn/index/Postings" "size" "I" (.int (0 : Int32))) (H3 : Arv Z h0 a3 k3 .int (5 : Int32) [(.int x0), (.int x1), (.int x2), (.int x3), (.int x4)] (.int (0 : Int32))) :
    own_Met l Z (⟨"com/example/glossyn/glossyn/index/Postings", "contains", "(I)Z"⟩ : MethodName) prog_22_method_5_code 2 (some .boolean) ({ frames := 2, cells := 0, slots := 0, locals := 34 } : Room) #[(.ref a1), (.int p2)] h0 (fun v h L => v = some (.int (own_y0  p2)) ∧ Fr n0 L ∧ h = h0) := by
  intro ws
  refine MetFree.of_bodySF (plainFor_of_name pn_c1) hisR ?_
  intro p e s m args below meth c s₁ Bd hml0 hP hK
  obtain ⟨rfl, hZ, hh⟩ := hP
  have hx := Bd.exec
  have hby := Bd.bytes
  have hml : c.maxLocals = 2 := hml0
  have hown : s.vm.findClass "com/example/glossyn/glossyn/index/Postings" = some m.cls := findClass_of_methodNamed Bd.named
  have hnm := (name_of_methodNamed Bd.named Bd.method).1
  have hlk : meth.locks = false := Bd.notSynchronized
  have X0 : Stand p l e ({ frames := 2, cells := 0, slots := 0, locals := 34 } : Room) s m #[(.ref a1), (.int p2)] below meth c s₁ [] 0 0 := Stand.of_body Bd
  have e0 : s₁.heap = h0 := by rw [← hh, Bd.state]; rfl
  have N0 := Fr.nil n0
  refine own_body (Q := fun v h L => v = some (.int (own_y0  p2)) ∧ Fr n0 L ∧ h = h0) ?_
  generalize hΦ : own_Fin s below _ _ _ = Φ
  refine own_cast (ef_3_RI m a1 p2) ?_
  show own_Run p e below Φ (s₁.setTop (mkF m 0 #[.val (.ref a1), .val (.int p2)] []))
  refine own_go (fun t k => XS.aloadN X0.here hx rfl (hb hby d3_0) rfl rfl  k) ?_
  obtain ⟨T1, X1, e1, st1⟩ := getF X0 hx hZ hown (host := "") (Or.inl (hw _ (List.mem_of_getElem? (i := 11) rfl))) Via.refl e0 H1 (g := (mkF m 1 #[.val (.ref a1), .val (.int p2)] [(.ref a1)])) rfl rfl (hb hby d3_1)
  refine own_go st1 ?_
  refine own_go (fun t k => XS.iconst X1.here hx rfl (hb hby d3_4) k) ?_
  refine own_go (fun t k => XS.aloadN X1.here hx rfl (hb hby d3_5) rfl rfl  k) ?_
  obtain ⟨T2, X2, e2, st2⟩ := getF X1 hx hZ hown (host := "") (Or.inl (hw _ (List.mem_of_getElem? (i := 15) rfl))) Via.refl e1 H2 (g := (mkF m 6 #[.val (.ref a1), .val (.int p2)] [(.ref a1), (.int (0 : Int32)), (.ref a3)])) rfl rfl (hb hby d3_6)
  refine own_go st2 ?_
  show own_Run p e below Φ (T2.setTop (mkF m 9 #[.val (.ref a1), .val (.int p2)] [(.int (0 : Int32)), (.int (0 : Int32)), (.ref a3)]))
  refine own_go (fun t k => XS.iloadN X2.here hx rfl (hb hby d3_9) rfl  k) ?_
  refine own_callS X2 hx hZ (y := (⟨"java/util/Arrays", "binarySearch", "([IIII)I"⟩ : MethodName)) (W := 0) (argsL := [(.ref a3), (.int (0 : Int32)), (.int (0 : Int32)), (.int p2)]) (rest := []) hown (hw _ (List.mem_of_getElem? (i := 22) rfl)) (hw _ (List.mem_of_getElem? (i := 23) rfl)) (hw _ (List.mem_of_getElem? (i := 24) rfl)) (hw _ (List.mem_of_getElem? (i := 25) rfl)) (by decide) (own_bk (rm_bs0 l Z a0 hw a3 p2 k3 x0 x1 x2 x3 x4 h0 n0 H3) hZ (hw _ (List.mem_of_getElem? (i := 25) rfl)) (hw _ (List.mem_of_getElem? (i := 24) rfl)) (by decide) (by decide)) e2 (g := (mkF m 10 #[.val (.ref a1), .val (.int p2)] [(.int p2), (.int (0 : Int32)), (.int (0 : Int32)), (.ref a3)])) rfl (by rw [hml]; rfl) (lenOf pd_3 rfl) rfl (by show 2 * 0 + _ ≤ _; exact Nat.le_of_eq rfl) (hb hby d3_10) (by decide) (by decide) (fun v3 T3 h3 L3 X3 e3 q3 => ?_)
  obtain ⟨rfl, M3, s3⟩ := q3
  replace e3 : T3.heap = h0 := e3.trans s3
  have N3 := Fr.app N0 M3
  by_cases hc13 : (own_bs0  p2) < (0 : Int32)
  · refine own_go (fun t k => XS.ifYes X3.here hx rfl (pc0 := 13) (pc' := 20) rfl (hb hby d3_13) rfl ((if0 _ _).trans (tlt hc13).1) (by decide) (by decide) k) ?_
    refine own_go (fun t k => XS.iconst X3.here hx rfl (hb hby d3_20) k) ?_
    subst hΦ
    exact own_retN X3 hx (t := .boolean) Bd.returns (by simp) hlk (hb hby d3_21) e3 ⟨(by rw [own_bl0 , if_pos hc13]; rfl), N3, rfl⟩ (by decide) (by decide)
  · refine own_go (fun t k => XS.ifNo X3.here hx rfl (hb hby d3_13) rfl ((if0 _ _).trans (flt hc13).1) k) ?_
    show own_Run p e below Φ (T3.setTop (mkF m 16 #[.val (.ref a1), .val (.int p2)] []))
    refine own_go (fun t k => XS.iconst X3.here hx rfl (hb hby d3_16) k) ?_
    refine own_go (fun t k => XS.goto X3.here hx rfl (pc0 := 17) (pc' := 21) rfl (hb hby d3_17) (by decide) (by decide) k) ?_
    subst hΦ
    exact own_retN X3 hx (t := .boolean) Bd.returns (by simp) hlk (hb hby d3_21) e3 ⟨(by rw [own_bl0 , if_neg hc13]; rfl), N3, rfl⟩ (by decide) (by decide)
set_option maxRecDepth 65536 in
set_option maxHeartbeats 40000000 in
theorem rm_rc1 (l : Launch) (Z : State) (a0 : Array Value) (hw : ∀ d ∈ tables_1, d.before a0 Z = true)  (h0 : Heap) (n0 : Nat)  :
    own_Met l Z (⟨"java/util/Arrays", "rangeCheck", "(III)V"⟩ : MethodName) jdk_65_method_30_code 3 none ({ frames := 0, cells := 0, slots := 0, locals := 0 } : Room) #[(.int (5 : Int32)), (.int (0 : Int32)), (.int (1 : Int32))] h0 (fun v h L => v = none ∧ Fr n0 L ∧ h = h0) := by
  intro ws
  refine MetFree.of_bodySF (plainFor_of_name pn_c3) hisR ?_
  intro p e s m args below meth c s₁ Bd hml0 hP hK
  obtain ⟨rfl, hZ, hh⟩ := hP
  have hx := Bd.exec
  have hby := Bd.bytes
  have hml : c.maxLocals = 3 := hml0
  have hown : s.vm.findClass "java/util/Arrays" = some m.cls := findClass_of_methodNamed Bd.named
  have hnm := (name_of_methodNamed Bd.named Bd.method).1
  have hlk : meth.locks = false := Bd.notSynchronized
  have X0 : Stand p l e ({ frames := 0, cells := 0, slots := 0, locals := 0 } : Room) s m #[(.int (5 : Int32)), (.int (0 : Int32)), (.int (1 : Int32))] below meth c s₁ [] 0 0 := Stand.of_body Bd
  have e0 : s₁.heap = h0 := by rw [← hh, Bd.state]; rfl
  have N0 := Fr.nil n0
  refine own_body (Q := fun v h L => v = none ∧ Fr n0 L ∧ h = h0) ?_
  generalize hΦ : own_Fin s below _ _ _ = Φ
  refine own_cast (ef_5_III m (5 : Int32) (0 : Int32) (1 : Int32)) ?_
  show own_Run p e below Φ (s₁.setTop (mkF m 0 #[.val (.int (5 : Int32)), .val (.int (0 : Int32)), .val (.int (1 : Int32))] []))
  refine own_go (fun t k => XS.iloadN X0.here hx rfl (hb hby d5_0) rfl  k) ?_
  refine own_go (fun t k => XS.iloadN X0.here hx rfl (hb hby d5_1) rfl  k) ?_
  refine own_go (fun t k => XS.icmpYes X0.here hx rfl (pc0 := 2) (pc' := 46) rfl (hb hby d5_2) rfl (flt (by decide : ¬ ((1 : Int32) < (0 : Int32)))).2.2.2 (by decide) (by decide) k) ?_
  refine own_go (fun t k => XS.iloadN X0.here hx rfl (hb hby d5_46) rfl  k) ?_
  refine own_go (fun t k => XS.ifYes X0.here hx rfl (pc0 := 47) (pc' := 59) rfl (hb hby d5_47) rfl ((if0 _ _).trans (flt (by decide : ¬ ((0 : Int32) < (0 : Int32)))).2.1) (by decide) (by decide) k) ?_
  show own_Run p e below Φ (s₁.setTop (mkF m 59 #[.val (.int (5 : Int32)), .val (.int (0 : Int32)), .val (.int (1 : Int32))] []))
  refine own_go (fun t k => XS.iloadN X0.here hx rfl (hb hby d5_59) rfl  k) ?_
  refine own_go (fun t k => XS.iloadN X0.here hx rfl (hb hby d5_60) rfl  k) ?_
  refine own_go (fun t k => XS.icmpYes X0.here hx rfl (pc0 := 61) (pc' := 73) rfl (hb hby d5_61) rfl (flt (by decide : ¬ ((5 : Int32) < (1 : Int32)))).2.2.2 (by decide) (by decide) k) ?_
  subst hΦ
  exact own_retV X0 hx Bd.returns hlk (hb hby d5_73) e0 ⟨rfl, N0, rfl⟩ (by decide) (by decide)
theorem d6_15 : decode jdk_65_method_59_code 15 = .ok (.iload 4, 2) := by decide +kernel
theorem d6_17 : decode jdk_65_method_59_code 17 = .ok (.iload 5, 2) := by decide +kernel
theorem d6_19 : decode jdk_65_method_59_code 19 = .ok (.iadd, 1) := by decide +kernel
theorem d6_20 : decode jdk_65_method_59_code 20 = .ok (.iconst 1, 1) := by decide +kernel
theorem d6_21 : decode jdk_65_method_59_code 21 = .ok (.iushr, 1) := by decide +kernel
theorem d6_22 : decode jdk_65_method_59_code 22 = .ok (.istore 6, 2) := by decide +kernel
theorem d6_24 : decode jdk_65_method_59_code 24 = .ok (.aload_n 0, 1) := by decide +kernel
theorem d6_25 : decode jdk_65_method_59_code 25 = .ok (.iload 6, 2) := by decide +kernel
theorem d6_27 : decode jdk_65_method_59_code 27 = .ok (.iaload, 1) := by decide +kernel
theorem d6_28 : decode jdk_65_method_59_code 28 = .ok (.istore 7, 2) := by decide +kernel
theorem d6_30 : decode jdk_65_method_59_code 30 = .ok (.iload 7, 2) := by decide +kernel
theorem d6_32 : decode jdk_65_method_59_code 32 = .ok (.iload_n 3, 1) := by decide +kernel
theorem d6_33 : decode jdk_65_method_59_code 33 = .ok (.if_icmp .ge 12, 3) := by decide +kernel
theorem d6_36 : decode jdk_65_method_59_code 36 = .ok (.iload 6, 2) := by decide +kernel
theorem d6_38 : decode jdk_65_method_59_code 38 = .ok (.iconst 1, 1) := by decide +kernel
theorem d6_39 : decode jdk_65_method_59_code 39 = .ok (.iadd, 1) := by decide +kernel
theorem d6_40 : decode jdk_65_method_59_code 40 = .ok (.istore 4, 2) := by decide +kernel
theorem d6_42 : decode jdk_65_method_59_code 42 = .ok (.goto 21, 3) := by decide +kernel
theorem d6_45 : decode jdk_65_method_59_code 45 = .ok (.iload 7, 2) := by decide +kernel
theorem d6_47 : decode jdk_65_method_59_code 47 = .ok (.iload_n 3, 1) := by decide +kernel
theorem d6_48 : decode jdk_65_method_59_code 48 = .ok (.if_icmp .le 12, 3) := by decide +kernel
theorem d6_51 : decode jdk_65_method_59_code 51 = .ok (.iload 6, 2) := by decide +kernel
theorem d6_53 : decode jdk_65_method_59_code 53 = .ok (.iconst 1, 1) := by decide +kernel
theorem d6_54 : decode jdk_65_method_59_code 54 = .ok (.isub, 1) := by decide +kernel
theorem d6_55 : decode jdk_65_method_59_code 55 = .ok (.istore 5, 2) := by decide +kernel
theorem d6_57 : decode jdk_65_method_59_code 57 = .ok (.goto 6, 3) := by decide +kernel
theorem d6_60 : decode jdk_65_method_59_code 60 = .ok (.iload 6, 2) := by decide +kernel
theorem d6_62 : decode jdk_65_method_59_code 62 = .ok (.ireturn, 1) := by decide +kernel
theorem d6_63 : decode jdk_65_method_59_code 63 = .ok (.goto (-55), 3) := by decide +kernel
set_option maxRecDepth 65536 in
set_option maxHeartbeats 40000000 in
theorem rm_bz1 (l : Launch) (Z : State) (a0 : Array Value) (hw : ∀ d ∈ tables_1, d.before a0 Z = true) (a1 : Addr) (p4 : Int32) (k1 : ClassId) (x0 : Int32) (x1 : Int32) (x2 : Int32) (x3 : Int32) (x4 : Int32) (h0 : Heap) (n0 : Nat) (H1 : Arv Z h0 a1 k1 .int (5 : Int32) [(.int x0), (.int x1), (.int x2), (.int x3), (.int x4)] (.int (0 : Int32))) :
    own_Met l Z (⟨"java/util/Arrays", "binarySearch0", "([IIII)I"⟩ : MethodName) jdk_65_method_59_code 8 (some .int) ({ frames := 0, cells := 0, slots := 0, locals := 0 } : Room) #[(.ref a1), (.int (0 : Int32)), (.int (1 : Int32)), (.int p4)] h0 (fun v h L => v = some (.int (own_bs1 x0 p4)) ∧ Fr n0 L ∧ h = h0) := by
  intro ws
  refine MetFree.of_bodySF (plainFor_of_name pn_c3) hisR ?_
  intro p e s m args below meth c s₁ Bd hml0 hP hK
  obtain ⟨rfl, hZ, hh⟩ := hP
  have hx := Bd.exec
  have hby := Bd.bytes
  have hml : c.maxLocals = 8 := hml0
  have hown : s.vm.findClass "java/util/Arrays" = some m.cls := findClass_of_methodNamed Bd.named
  have hnm := (name_of_methodNamed Bd.named Bd.method).1
  have hlk : meth.locks = false := Bd.notSynchronized
  have X0 : Stand p l e ({ frames := 0, cells := 0, slots := 0, locals := 0 } : Room) s m #[(.ref a1), (.int (0 : Int32)), (.int (1 : Int32)), (.int p4)] below meth c s₁ [] 0 0 := Stand.of_body Bd
  have e0 : s₁.heap = h0 := by rw [← hh, Bd.state]; rfl
  have N0 := Fr.nil n0
  refine own_body (Q := fun v h L => v = some (.int (own_bs1 x0 p4)) ∧ Fr n0 L ∧ h = h0) ?_
  generalize hΦ : own_Fin s below _ _ _ = Φ
  refine own_cast (ef_6_RIII m a1 (0 : Int32) (1 : Int32) p4) ?_
  show own_Run p e below Φ (s₁.setTop (mkF m 0 #[.val (.ref a1), .val (.int (0 : Int32)), .val (.int (1 : Int32)), .val (.int p4), .unset, .unset, .unset, .unset] []))
  refine own_go (fun t k => XS.iloadN X0.here hx rfl (hb hby d6_0) rfl  k) ?_
  refine own_go (fun t k => XS.istore X0.here hx rfl (hb hby d6_1) rfl (l' := #[.val (.ref a1), .val (.int (0 : Int32)), .val (.int (1 : Int32)), .val (.int p4), .val (.int (0 : Int32)), .unset, .unset, .unset]) rfl k) ?_
  refine own_go (fun t k => XS.iloadN X0.here hx rfl (hb hby d6_3) rfl  k) ?_
  refine own_go (fun t k => XS.iconst X0.here hx rfl (hb hby d6_4) k) ?_
  refine own_go (fun t k => XS.isub X0.here hx rfl (hb hby d6_5) rfl k) ?_
  show own_Run p e below Φ (s₁.setTop (mkF m 6 #[.val (.ref a1), .val (.int (0 : Int32)), .val (.int (1 : Int32)), .val (.int p4), .val (.int (0 : Int32)), .unset, .unset, .unset] [(.int ((1 : Int32) - (1 : Int32)))]))
  rw [show ((1 : Int32) - (1 : Int32)) = (0 : Int32) from by decide]
  show own_Run p e below Φ (s₁.setTop (mkF m 6 #[.val (.ref a1), .val (.int (0 : Int32)), .val (.int (1 : Int32)), .val (.int p4), .val (.int (0 : Int32)), .unset, .unset, .unset] [(.int (0 : Int32))]))
  refine own_go (fun t k => XS.istore X0.here hx rfl (hb hby d6_6) rfl (l' := #[.val (.ref a1), .val (.int (0 : Int32)), .val (.int (1 : Int32)), .val (.int p4), .val (.int (0 : Int32)), .val (.int (0 : Int32)), .unset, .unset]) rfl k) ?_
  refine own_go (fun t k => XS.iload X0.here hx rfl (hb hby d6_8) rfl  k) ?_
  refine own_go (fun t k => XS.iload X0.here hx rfl (hb hby d6_10) rfl  k) ?_
  refine own_go (fun t k => XS.icmpNo X0.here hx rfl (hb hby d6_12) rfl (flt (by decide : ¬ ((0 : Int32) < (0 : Int32)))).2.2.1 k) ?_
  refine own_go (fun t k => XS.iload X0.here hx rfl (hb hby d6_15) rfl  k) ?_
  show own_Run p e below Φ (s₁.setTop (mkF m 17 #[.val (.ref a1), .val (.int (0 : Int32)), .val (.int (1 : Int32)), .val (.int p4), .val (.int (0 : Int32)), .val (.int (0 : Int32)), .unset, .unset] [(.int (0 : Int32))]))
  refine own_go (fun t k => XS.iload X0.here hx rfl (hb hby d6_17) rfl  k) ?_
  refine own_go (fun t k => XS.iadd X0.here hx rfl (hb hby d6_19) rfl k) ?_
  show own_Run p e below Φ (s₁.setTop (mkF m 20 #[.val (.ref a1), .val (.int (0 : Int32)), .val (.int (1 : Int32)), .val (.int p4), .val (.int (0 : Int32)), .val (.int (0 : Int32)), .unset, .unset] [(.int ((0 : Int32) + (0 : Int32)))]))
  rw [show ((0 : Int32) + (0 : Int32)) = (0 : Int32) from by decide]
  show own_Run p e below Φ (s₁.setTop (mkF m 20 #[.val (.ref a1), .val (.int (0 : Int32)), .val (.int (1 : Int32)), .val (.int p4), .val (.int (0 : Int32)), .val (.int (0 : Int32)), .unset, .unset] [(.int (0 : Int32))]))
  refine own_go (fun t k => XS.iconst X0.here hx rfl (hb hby d6_20) k) ?_
  refine own_go (fun t k => XS.iushr X0.here hx rfl (hb hby d6_21) rfl k) ?_
  show own_Run p e below Φ (s₁.setTop (mkF m 22 #[.val (.ref a1), .val (.int (0 : Int32)), .val (.int (1 : Int32)), .val (.int p4), .val (.int (0 : Int32)), .val (.int (0 : Int32)), .unset, .unset] [(.int (((0 : Int32).toUInt32 >>> ((1 : Int32) &&& 31).toUInt32).toInt32))]))
  rw [show (((0 : Int32).toUInt32 >>> ((1 : Int32) &&& 31).toUInt32).toInt32) = (0 : Int32) from by decide]
  show own_Run p e below Φ (s₁.setTop (mkF m 22 #[.val (.ref a1), .val (.int (0 : Int32)), .val (.int (1 : Int32)), .val (.int p4), .val (.int (0 : Int32)), .val (.int (0 : Int32)), .unset, .unset] [(.int (0 : Int32))]))
  refine own_go (fun t k => XS.istore X0.here hx rfl (hb hby d6_22) rfl (l' := #[.val (.ref a1), .val (.int (0 : Int32)), .val (.int (1 : Int32)), .val (.int p4), .val (.int (0 : Int32)), .val (.int (0 : Int32)), .val (.int (0 : Int32)), .unset]) rfl k) ?_
  refine own_go (fun t k => XS.aloadN X0.here hx rfl (hb hby d6_24) rfl rfl  k) ?_
  refine own_go (fun t k => XS.iload X0.here hx rfl (hb hby d6_25) rfl  k) ?_
  refine own_iaload X0 hx hZ e0 H1 (j := (0 : Int32)) (v := (.int x0)) ⟨by decide, by decide⟩ rfl (g := (mkF m 27 #[.val (.ref a1), .val (.int (0 : Int32)), .val (.int (1 : Int32)), .val (.int p4), .val (.int (0 : Int32)), .val (.int (0 : Int32)), .val (.int (0 : Int32)), .unset] [(.int (0 : Int32)), (.ref a1)])) rfl rfl (hb hby d6_27) ?_
  refine own_go (fun t k => XS.istore X0.here hx rfl (hb hby d6_28) rfl (l' := #[.val (.ref a1), .val (.int (0 : Int32)), .val (.int (1 : Int32)), .val (.int p4), .val (.int (0 : Int32)), .val (.int (0 : Int32)), .val (.int (0 : Int32)), .val (.int x0)]) rfl k) ?_
  show own_Run p e below Φ (s₁.setTop (mkF m 30 #[.val (.ref a1), .val (.int (0 : Int32)), .val (.int (1 : Int32)), .val (.int p4), .val (.int (0 : Int32)), .val (.int (0 : Int32)), .val (.int (0 : Int32)), .val (.int x0)] []))
  refine own_go (fun t k => XS.iload X0.here hx rfl (hb hby d6_30) rfl  k) ?_
  refine own_go (fun t k => XS.iloadN X0.here hx rfl (hb hby d6_32) rfl  k) ?_
  by_cases hc33 : x0 < p4
  · refine own_go (fun t k => XS.icmpNo X0.here hx rfl (hb hby d6_33) rfl (tlt hc33).2.1 k) ?_
    refine own_go (fun t k => XS.iload X0.here hx rfl (hb hby d6_36) rfl  k) ?_
    refine own_go (fun t k => XS.iconst X0.here hx rfl (hb hby d6_38) k) ?_
    show own_Run p e below Φ (s₁.setTop (mkF m 39 #[.val (.ref a1), .val (.int (0 : Int32)), .val (.int (1 : Int32)), .val (.int p4), .val (.int (0 : Int32)), .val (.int (0 : Int32)), .val (.int (0 : Int32)), .val (.int x0)] [(.int (1 : Int32)), (.int (0 : Int32))]))
    refine own_go (fun t k => XS.iadd X0.here hx rfl (hb hby d6_39) rfl k) ?_
    show own_Run p e below Φ (s₁.setTop (mkF m 40 #[.val (.ref a1), .val (.int (0 : Int32)), .val (.int (1 : Int32)), .val (.int p4), .val (.int (0 : Int32)), .val (.int (0 : Int32)), .val (.int (0 : Int32)), .val (.int x0)] [(.int ((0 : Int32) + (1 : Int32)))]))
    rw [show ((0 : Int32) + (1 : Int32)) = (1 : Int32) from by decide]
    show own_Run p e below Φ (s₁.setTop (mkF m 40 #[.val (.ref a1), .val (.int (0 : Int32)), .val (.int (1 : Int32)), .val (.int p4), .val (.int (0 : Int32)), .val (.int (0 : Int32)), .val (.int (0 : Int32)), .val (.int x0)] [(.int (1 : Int32))]))
    refine own_go (fun t k => XS.istore X0.here hx rfl (hb hby d6_40) rfl (l' := #[.val (.ref a1), .val (.int (0 : Int32)), .val (.int (1 : Int32)), .val (.int p4), .val (.int (1 : Int32)), .val (.int (0 : Int32)), .val (.int (0 : Int32)), .val (.int x0)]) rfl k) ?_
    refine own_go (fun t k => XS.goto X0.here hx rfl (pc0 := 42) (pc' := 63) rfl (hb hby d6_42) (by decide) (by decide) k) ?_
    refine own_go (fun t k => XS.goto X0.here hx rfl (pc0 := 63) (pc' := 8) rfl (hb hby d6_63) (by decide) (by decide) k) ?_
    refine own_go (fun t k => XS.iload X0.here hx rfl (hb hby d6_8) rfl  k) ?_
    refine own_go (fun t k => XS.iload X0.here hx rfl (hb hby d6_10) rfl  k) ?_
    show own_Run p e below Φ (s₁.setTop (mkF m 12 #[.val (.ref a1), .val (.int (0 : Int32)), .val (.int (1 : Int32)), .val (.int p4), .val (.int (1 : Int32)), .val (.int (0 : Int32)), .val (.int (0 : Int32)), .val (.int x0)] [(.int (0 : Int32)), (.int (1 : Int32))]))
    refine own_go (fun t k => XS.icmpYes X0.here hx rfl (pc0 := 12) (pc' := 66) rfl (hb hby d6_12) rfl (tlt (by decide : (0 : Int32) < (1 : Int32))).2.2.1 (by decide) (by decide) k) ?_
    refine own_go (fun t k => XS.iload X0.here hx rfl (hb hby d6_66) rfl  k) ?_
    refine own_go (fun t k => XS.iconst X0.here hx rfl (hb hby d6_68) k) ?_
    refine own_go (fun t k => XS.iadd X0.here hx rfl (hb hby d6_69) rfl k) ?_
    show own_Run p e below Φ (s₁.setTop (mkF m 70 #[.val (.ref a1), .val (.int (0 : Int32)), .val (.int (1 : Int32)), .val (.int p4), .val (.int (1 : Int32)), .val (.int (0 : Int32)), .val (.int (0 : Int32)), .val (.int x0)] [(.int ((1 : Int32) + (1 : Int32)))]))
    rw [show ((1 : Int32) + (1 : Int32)) = (2 : Int32) from by decide]
    show own_Run p e below Φ (s₁.setTop (mkF m 70 #[.val (.ref a1), .val (.int (0 : Int32)), .val (.int (1 : Int32)), .val (.int p4), .val (.int (1 : Int32)), .val (.int (0 : Int32)), .val (.int (0 : Int32)), .val (.int x0)] [(.int (2 : Int32))]))
    refine own_go (fun t k => XS.ineg X0.here hx rfl (hb hby d6_70) rfl k) ?_
    show own_Run p e below Φ (s₁.setTop (mkF m 71 #[.val (.ref a1), .val (.int (0 : Int32)), .val (.int (1 : Int32)), .val (.int p4), .val (.int (1 : Int32)), .val (.int (0 : Int32)), .val (.int (0 : Int32)), .val (.int x0)] [(.int (-(2 : Int32)))]))
    rw [show (-(2 : Int32)) = (-2 : Int32) from by decide]
    show own_Run p e below Φ (s₁.setTop (mkF m 71 #[.val (.ref a1), .val (.int (0 : Int32)), .val (.int (1 : Int32)), .val (.int p4), .val (.int (1 : Int32)), .val (.int (0 : Int32)), .val (.int (0 : Int32)), .val (.int x0)] [(.int (-2 : Int32))]))
    subst hΦ
    exact own_retI X0 hx Bd.returns hlk (hb hby d6_71) e0 ⟨(by simp only [own_bs1, if_true, if_false, hc33]), N0, rfl⟩ (by decide) (by decide)
  · refine own_go (fun t k => XS.icmpYes X0.here hx rfl (pc0 := 33) (pc' := 45) rfl (hb hby d6_33) rfl (flt hc33).2.1 (by decide) (by decide) k) ?_
    refine own_go (fun t k => XS.iload X0.here hx rfl (hb hby d6_45) rfl  k) ?_
    refine own_go (fun t k => XS.iloadN X0.here hx rfl (hb hby d6_47) rfl  k) ?_
    by_cases hc48 : p4 < x0
    · refine own_go (fun t k => XS.icmpNo X0.here hx rfl (hb hby d6_48) rfl (tlt hc48).2.2.2 k) ?_
      refine own_go (fun t k => XS.iload X0.here hx rfl (hb hby d6_51) rfl  k) ?_
      show own_Run p e below Φ (s₁.setTop (mkF m 53 #[.val (.ref a1), .val (.int (0 : Int32)), .val (.int (1 : Int32)), .val (.int p4), .val (.int (0 : Int32)), .val (.int (0 : Int32)), .val (.int (0 : Int32)), .val (.int x0)] [(.int (0 : Int32))]))
      refine own_go (fun t k => XS.iconst X0.here hx rfl (hb hby d6_53) k) ?_
      refine own_go (fun t k => XS.isub X0.here hx rfl (hb hby d6_54) rfl k) ?_
      show own_Run p e below Φ (s₁.setTop (mkF m 55 #[.val (.ref a1), .val (.int (0 : Int32)), .val (.int (1 : Int32)), .val (.int p4), .val (.int (0 : Int32)), .val (.int (0 : Int32)), .val (.int (0 : Int32)), .val (.int x0)] [(.int ((0 : Int32) - (1 : Int32)))]))
      rw [show ((0 : Int32) - (1 : Int32)) = (-1 : Int32) from by decide]
      show own_Run p e below Φ (s₁.setTop (mkF m 55 #[.val (.ref a1), .val (.int (0 : Int32)), .val (.int (1 : Int32)), .val (.int p4), .val (.int (0 : Int32)), .val (.int (0 : Int32)), .val (.int (0 : Int32)), .val (.int x0)] [(.int (-1 : Int32))]))
      refine own_go (fun t k => XS.istore X0.here hx rfl (hb hby d6_55) rfl (l' := #[.val (.ref a1), .val (.int (0 : Int32)), .val (.int (1 : Int32)), .val (.int p4), .val (.int (0 : Int32)), .val (.int (-1 : Int32)), .val (.int (0 : Int32)), .val (.int x0)]) rfl k) ?_
      refine own_go (fun t k => XS.goto X0.here hx rfl (pc0 := 57) (pc' := 63) rfl (hb hby d6_57) (by decide) (by decide) k) ?_
      refine own_go (fun t k => XS.goto X0.here hx rfl (pc0 := 63) (pc' := 8) rfl (hb hby d6_63) (by decide) (by decide) k) ?_
      refine own_go (fun t k => XS.iload X0.here hx rfl (hb hby d6_8) rfl  k) ?_
      refine own_go (fun t k => XS.iload X0.here hx rfl (hb hby d6_10) rfl  k) ?_
      show own_Run p e below Φ (s₁.setTop (mkF m 12 #[.val (.ref a1), .val (.int (0 : Int32)), .val (.int (1 : Int32)), .val (.int p4), .val (.int (0 : Int32)), .val (.int (-1 : Int32)), .val (.int (0 : Int32)), .val (.int x0)] [(.int (-1 : Int32)), (.int (0 : Int32))]))
      refine own_go (fun t k => XS.icmpYes X0.here hx rfl (pc0 := 12) (pc' := 66) rfl (hb hby d6_12) rfl (tlt (by decide : (-1 : Int32) < (0 : Int32))).2.2.1 (by decide) (by decide) k) ?_
      refine own_go (fun t k => XS.iload X0.here hx rfl (hb hby d6_66) rfl  k) ?_
      refine own_go (fun t k => XS.iconst X0.here hx rfl (hb hby d6_68) k) ?_
      refine own_go (fun t k => XS.iadd X0.here hx rfl (hb hby d6_69) rfl k) ?_
      show own_Run p e below Φ (s₁.setTop (mkF m 70 #[.val (.ref a1), .val (.int (0 : Int32)), .val (.int (1 : Int32)), .val (.int p4), .val (.int (0 : Int32)), .val (.int (-1 : Int32)), .val (.int (0 : Int32)), .val (.int x0)] [(.int ((0 : Int32) + (1 : Int32)))]))
      rw [show ((0 : Int32) + (1 : Int32)) = (1 : Int32) from by decide]
      show own_Run p e below Φ (s₁.setTop (mkF m 70 #[.val (.ref a1), .val (.int (0 : Int32)), .val (.int (1 : Int32)), .val (.int p4), .val (.int (0 : Int32)), .val (.int (-1 : Int32)), .val (.int (0 : Int32)), .val (.int x0)] [(.int (1 : Int32))]))
      refine own_go (fun t k => XS.ineg X0.here hx rfl (hb hby d6_70) rfl k) ?_
      show own_Run p e below Φ (s₁.setTop (mkF m 71 #[.val (.ref a1), .val (.int (0 : Int32)), .val (.int (1 : Int32)), .val (.int p4), .val (.int (0 : Int32)), .val (.int (-1 : Int32)), .val (.int (0 : Int32)), .val (.int x0)] [(.int (-(1 : Int32)))]))
      rw [show (-(1 : Int32)) = (-1 : Int32) from by decide]
      show own_Run p e below Φ (s₁.setTop (mkF m 71 #[.val (.ref a1), .val (.int (0 : Int32)), .val (.int (1 : Int32)), .val (.int p4), .val (.int (0 : Int32)), .val (.int (-1 : Int32)), .val (.int (0 : Int32)), .val (.int x0)] [(.int (-1 : Int32))]))
      subst hΦ
      exact own_retI X0 hx Bd.returns hlk (hb hby d6_71) e0 ⟨(by simp only [own_bs1, if_true, if_false, hc33, hc48]), N0, rfl⟩ (by decide) (by decide)
    · refine own_go (fun t k => XS.icmpYes X0.here hx rfl (pc0 := 48) (pc' := 60) rfl (hb hby d6_48) rfl (flt hc48).2.2.2 (by decide) (by decide) k) ?_
      refine own_go (fun t k => XS.iload X0.here hx rfl (hb hby d6_60) rfl  k) ?_
      subst hΦ
      exact own_retI X0 hx Bd.returns hlk (hb hby d6_62) e0 ⟨(by simp only [own_bs1, if_true, if_false, hc33, hc48]), N0, rfl⟩ (by decide) (by decide)
set_option maxRecDepth 65536 in
set_option maxHeartbeats 40000000 in
theorem rm_bs1 (l : Launch) (Z : State) (a0 : Array Value) (hw : ∀ d ∈ tables_1, d.before a0 Z = true) (a1 : Addr) (p4 : Int32) (k1 : ClassId) (x0 : Int32) (x1 : Int32) (x2 : Int32) (x3 : Int32) (x4 : Int32) (h0 : Heap) (n0 : Nat) (H1 : Arv Z h0 a1 k1 .int (5 : Int32) [(.int x0), (.int x1), (.int x2), (.int x3), (.int x4)] (.int (0 : Int32))) :
    own_Met l Z (⟨"java/util/Arrays", "binarySearch", "([IIII)I"⟩ : MethodName) jdk_65_method_58_code 4 (some .int) ({ frames := 1, cells := 0, slots := 0, locals := 19 } : Room) #[(.ref a1), (.int (0 : Int32)), (.int (1 : Int32)), (.int p4)] h0 (fun v h L => v = some (.int (own_bs1 x0 p4)) ∧ Fr n0 L ∧ h = h0) := by
  intro ws
  refine MetFree.of_bodySF (plainFor_of_name pn_c3) hisR ?_
  intro p e s m args below meth c s₁ Bd hml0 hP hK
  obtain ⟨rfl, hZ, hh⟩ := hP
  have hx := Bd.exec
  have hby := Bd.bytes
  have hml : c.maxLocals = 4 := hml0
  have hown : s.vm.findClass "java/util/Arrays" = some m.cls := findClass_of_methodNamed Bd.named
  have hnm := (name_of_methodNamed Bd.named Bd.method).1
  have hlk : meth.locks = false := Bd.notSynchronized
  have X0 : Stand p l e ({ frames := 1, cells := 0, slots := 0, locals := 19 } : Room) s m #[(.ref a1), (.int (0 : Int32)), (.int (1 : Int32)), (.int p4)] below meth c s₁ [] 0 0 := Stand.of_body Bd
  have e0 : s₁.heap = h0 := by rw [← hh, Bd.state]; rfl
  have N0 := Fr.nil n0
  refine own_body (Q := fun v h L => v = some (.int (own_bs1 x0 p4)) ∧ Fr n0 L ∧ h = h0) ?_
  generalize hΦ : own_Fin s below _ _ _ = Φ
  refine own_cast (ef_4_RIII m a1 (0 : Int32) (1 : Int32) p4) ?_
  show own_Run p e below Φ (s₁.setTop (mkF m 0 #[.val (.ref a1), .val (.int (0 : Int32)), .val (.int (1 : Int32)), .val (.int p4)] []))
  refine own_go (fun t k => XS.aloadN X0.here hx rfl (hb hby d4_0) rfl rfl  k) ?_
  refine own_arrlen X0 hx hZ e0 H1 (g := (mkF m 1 #[.val (.ref a1), .val (.int (0 : Int32)), .val (.int (1 : Int32)), .val (.int p4)] [(.ref a1)])) rfl rfl (hb hby d4_1) ?_
  refine own_go (fun t k => XS.iloadN X0.here hx rfl (hb hby d4_2) rfl  k) ?_
  refine own_go (fun t k => XS.iloadN X0.here hx rfl (hb hby d4_3) rfl  k) ?_
  refine own_callS X0 hx hZ (y := (⟨"java/util/Arrays", "rangeCheck", "(III)V"⟩ : MethodName)) (W := 0) (argsL := [(.int (5 : Int32)), (.int (0 : Int32)), (.int (1 : Int32))]) (rest := []) hown (hw _ (List.mem_of_getElem? (i := 26) rfl)) (hw _ (List.mem_of_getElem? (i := 27) rfl)) (hw _ (List.mem_of_getElem? (i := 24) rfl)) (hw _ (List.mem_of_getElem? (i := 28) rfl)) (by decide) (own_bk (rm_rc1 l Z a0 hw  h0 n0 ) hZ (hw _ (List.mem_of_getElem? (i := 28) rfl)) (hw _ (List.mem_of_getElem? (i := 24) rfl)) (by decide) (by decide)) e0 (g := (mkF m 4 #[.val (.ref a1), .val (.int (0 : Int32)), .val (.int (1 : Int32)), .val (.int p4)] [(.int (1 : Int32)), (.int (0 : Int32)), (.int (5 : Int32))])) rfl (by rw [hml]; rfl) (lenOf pd_4 rfl) rfl (by show 2 * 0 + _ ≤ _; exact Nat.le_of_eq rfl) (hb hby d4_4) (by decide) (by decide) (fun v1 T1 h1 L1 X1 e1 q1 => ?_)
  obtain ⟨rfl, M1, s1⟩ := q1
  replace e1 : T1.heap = h0 := e1.trans s1
  have N1 := Fr.app N0 M1
  show own_Run p e below Φ (T1.setTop (mkF m 7 #[.val (.ref a1), .val (.int (0 : Int32)), .val (.int (1 : Int32)), .val (.int p4)] []))
  refine own_go (fun t k => XS.aloadN X1.here hx rfl (hb hby d4_7) rfl rfl  k) ?_
  refine own_go (fun t k => XS.iloadN X1.here hx rfl (hb hby d4_8) rfl  k) ?_
  refine own_go (fun t k => XS.iloadN X1.here hx rfl (hb hby d4_9) rfl  k) ?_
  refine own_go (fun t k => XS.iloadN X1.here hx rfl (hb hby d4_10) rfl  k) ?_
  refine own_callS X1 hx hZ (y := (⟨"java/util/Arrays", "binarySearch0", "([IIII)I"⟩ : MethodName)) (W := 0) (argsL := [(.ref a1), (.int (0 : Int32)), (.int (1 : Int32)), (.int p4)]) (rest := []) hown (hw _ (List.mem_of_getElem? (i := 29) rfl)) (hw _ (List.mem_of_getElem? (i := 30) rfl)) (hw _ (List.mem_of_getElem? (i := 24) rfl)) (hw _ (List.mem_of_getElem? (i := 31) rfl)) (by decide) (own_bk (rm_bz1 l Z a0 hw a1 p4 k1 x0 x1 x2 x3 x4 h0 n0 H1) hZ (hw _ (List.mem_of_getElem? (i := 31) rfl)) (hw _ (List.mem_of_getElem? (i := 24) rfl)) (by decide) (by decide)) e1 (g := (mkF m 11 #[.val (.ref a1), .val (.int (0 : Int32)), .val (.int (1 : Int32)), .val (.int p4)] [(.int p4), (.int (1 : Int32)), (.int (0 : Int32)), (.ref a1)])) rfl (by rw [hml]; rfl) (lenOf pd_3 rfl) rfl (by show 2 * 0 + _ ≤ _; exact Nat.le_of_eq rfl) (hb hby d4_11) (by decide) (by decide) (fun v2 T2 h2 L2 X2 e2 q2 => ?_)
  obtain ⟨rfl, M2, s2⟩ := q2
  replace e2 : T2.heap = h0 := e2.trans s2
  have N2 := Fr.app N1 M2
  show own_Run p e below Φ (T2.setTop (mkF m 14 #[.val (.ref a1), .val (.int (0 : Int32)), .val (.int (1 : Int32)), .val (.int p4)] [(.int (own_bs1 x0 p4))]))
  subst hΦ
  exact own_retI X2 hx Bd.returns hlk (hb hby d4_14) e2 ⟨rfl, N2, rfl⟩ (by decide) (by decide)
set_option maxRecDepth 65536 in
set_option maxHeartbeats 40000000 in
theorem rm_cn1 (l : Launch) (Z : State) (a0 : Array Value) (hw : ∀ d ∈ tables_1, d.before a0 Z = true) (a1 : Addr) (p2 : Int32) (a3 : Addr) (k3 : ClassId) (x0 : Int32) (x1 : Int32) (x2 : Int32) (x3 : Int32) (x4 : Int32) (h0 : Heap) (n0 : Nat) (H1 : Fld Z h0 a1 "com/example/glossyn/glossyn/index/Postings" "documents" "[I" (.ref a3)) (H2 : Fld Z h0 a1 "com/example/glossyn/glossyn/index/Postings" "size" "I" (.int (1 : Int32))) (H3 : Arv Z h0 a3 k3 .int (5 : Int32) [(.int x0), (.int x1), (.int x2), (.int x3), (.int x4)] (.int (0 : Int32))) :
    own_Met l Z (⟨"com/example/glossyn/glossyn/index/Postings", "contains", "(I)Z"⟩ : MethodName) prog_22_method_5_code 2 (some .boolean) ({ frames := 2, cells := 0, slots := 0, locals := 34 } : Room) #[(.ref a1), (.int p2)] h0 (fun v h L => v = some (.int (own_y1 x0 p2)) ∧ Fr n0 L ∧ h = h0) := by
  intro ws
  refine MetFree.of_bodySF (plainFor_of_name pn_c1) hisR ?_
  intro p e s m args below meth c s₁ Bd hml0 hP hK
  obtain ⟨rfl, hZ, hh⟩ := hP
  have hx := Bd.exec
  have hby := Bd.bytes
  have hml : c.maxLocals = 2 := hml0
  have hown : s.vm.findClass "com/example/glossyn/glossyn/index/Postings" = some m.cls := findClass_of_methodNamed Bd.named
  have hnm := (name_of_methodNamed Bd.named Bd.method).1
  have hlk : meth.locks = false := Bd.notSynchronized
  have X0 : Stand p l e ({ frames := 2, cells := 0, slots := 0, locals := 34 } : Room) s m #[(.ref a1), (.int p2)] below meth c s₁ [] 0 0 := Stand.of_body Bd
  have e0 : s₁.heap = h0 := by rw [← hh, Bd.state]; rfl
  have N0 := Fr.nil n0
  refine own_body (Q := fun v h L => v = some (.int (own_y1 x0 p2)) ∧ Fr n0 L ∧ h = h0) ?_
  generalize hΦ : own_Fin s below _ _ _ = Φ
  refine own_cast (ef_3_RI m a1 p2) ?_
  show own_Run p e below Φ (s₁.setTop (mkF m 0 #[.val (.ref a1), .val (.int p2)] []))
  refine own_go (fun t k => XS.aloadN X0.here hx rfl (hb hby d3_0) rfl rfl  k) ?_
  obtain ⟨T1, X1, e1, st1⟩ := getF X0 hx hZ hown (host := "") (Or.inl (hw _ (List.mem_of_getElem? (i := 11) rfl))) Via.refl e0 H1 (g := (mkF m 1 #[.val (.ref a1), .val (.int p2)] [(.ref a1)])) rfl rfl (hb hby d3_1)
  refine own_go st1 ?_
  refine own_go (fun t k => XS.iconst X1.here hx rfl (hb hby d3_4) k) ?_
  refine own_go (fun t k => XS.aloadN X1.here hx rfl (hb hby d3_5) rfl rfl  k) ?_
  obtain ⟨T2, X2, e2, st2⟩ := getF X1 hx hZ hown (host := "") (Or.inl (hw _ (List.mem_of_getElem? (i := 15) rfl))) Via.refl e1 H2 (g := (mkF m 6 #[.val (.ref a1), .val (.int p2)] [(.ref a1), (.int (0 : Int32)), (.ref a3)])) rfl rfl (hb hby d3_6)
  refine own_go st2 ?_
  show own_Run p e below Φ (T2.setTop (mkF m 9 #[.val (.ref a1), .val (.int p2)] [(.int (1 : Int32)), (.int (0 : Int32)), (.ref a3)]))
  refine own_go (fun t k => XS.iloadN X2.here hx rfl (hb hby d3_9) rfl  k) ?_
  refine own_callS X2 hx hZ (y := (⟨"java/util/Arrays", "binarySearch", "([IIII)I"⟩ : MethodName)) (W := 0) (argsL := [(.ref a3), (.int (0 : Int32)), (.int (1 : Int32)), (.int p2)]) (rest := []) hown (hw _ (List.mem_of_getElem? (i := 22) rfl)) (hw _ (List.mem_of_getElem? (i := 23) rfl)) (hw _ (List.mem_of_getElem? (i := 24) rfl)) (hw _ (List.mem_of_getElem? (i := 25) rfl)) (by decide) (own_bk (rm_bs1 l Z a0 hw a3 p2 k3 x0 x1 x2 x3 x4 h0 n0 H3) hZ (hw _ (List.mem_of_getElem? (i := 25) rfl)) (hw _ (List.mem_of_getElem? (i := 24) rfl)) (by decide) (by decide)) e2 (g := (mkF m 10 #[.val (.ref a1), .val (.int p2)] [(.int p2), (.int (1 : Int32)), (.int (0 : Int32)), (.ref a3)])) rfl (by rw [hml]; rfl) (lenOf pd_3 rfl) rfl (by show 2 * 0 + _ ≤ _; exact Nat.le_of_eq rfl) (hb hby d3_10) (by decide) (by decide) (fun v3 T3 h3 L3 X3 e3 q3 => ?_)
  obtain ⟨rfl, M3, s3⟩ := q3
  replace e3 : T3.heap = h0 := e3.trans s3
  have N3 := Fr.app N0 M3
  by_cases hc13 : (own_bs1 x0 p2) < (0 : Int32)
  · refine own_go (fun t k => XS.ifYes X3.here hx rfl (pc0 := 13) (pc' := 20) rfl (hb hby d3_13) rfl ((if0 _ _).trans (tlt hc13).1) (by decide) (by decide) k) ?_
    refine own_go (fun t k => XS.iconst X3.here hx rfl (hb hby d3_20) k) ?_
    subst hΦ
    exact own_retN X3 hx (t := .boolean) Bd.returns (by simp) hlk (hb hby d3_21) e3 ⟨(by rw [own_bl1 , if_pos hc13]; rfl), N3, rfl⟩ (by decide) (by decide)
  · refine own_go (fun t k => XS.ifNo X3.here hx rfl (hb hby d3_13) rfl ((if0 _ _).trans (flt hc13).1) k) ?_
    show own_Run p e below Φ (T3.setTop (mkF m 16 #[.val (.ref a1), .val (.int p2)] []))
    refine own_go (fun t k => XS.iconst X3.here hx rfl (hb hby d3_16) k) ?_
    refine own_go (fun t k => XS.goto X3.here hx rfl (pc0 := 17) (pc' := 21) rfl (hb hby d3_17) (by decide) (by decide) k) ?_
    subst hΦ
    exact own_retN X3 hx (t := .boolean) Bd.returns (by simp) hlk (hb hby d3_21) e3 ⟨(by rw [own_bl1 , if_neg hc13]; rfl), N3, rfl⟩ (by decide) (by decide)
set_option maxRecDepth 65536 in
set_option maxHeartbeats 40000000 in
theorem rm_rc2 (l : Launch) (Z : State) (a0 : Array Value) (hw : ∀ d ∈ tables_1, d.before a0 Z = true)  (h0 : Heap) (n0 : Nat)  :
    own_Met l Z (⟨"java/util/Arrays", "rangeCheck", "(III)V"⟩ : MethodName) jdk_65_method_30_code 3 none ({ frames := 0, cells := 0, slots := 0, locals := 0 } : Room) #[(.int (5 : Int32)), (.int (0 : Int32)), (.int (2 : Int32))] h0 (fun v h L => v = none ∧ Fr n0 L ∧ h = h0) := by
  intro ws
  refine MetFree.of_bodySF (plainFor_of_name pn_c3) hisR ?_
  intro p e s m args below meth c s₁ Bd hml0 hP hK
  obtain ⟨rfl, hZ, hh⟩ := hP
  have hx := Bd.exec
  have hby := Bd.bytes
  have hml : c.maxLocals = 3 := hml0
  have hown : s.vm.findClass "java/util/Arrays" = some m.cls := findClass_of_methodNamed Bd.named
  have hnm := (name_of_methodNamed Bd.named Bd.method).1
  have hlk : meth.locks = false := Bd.notSynchronized
  have X0 : Stand p l e ({ frames := 0, cells := 0, slots := 0, locals := 0 } : Room) s m #[(.int (5 : Int32)), (.int (0 : Int32)), (.int (2 : Int32))] below meth c s₁ [] 0 0 := Stand.of_body Bd
  have e0 : s₁.heap = h0 := by rw [← hh, Bd.state]; rfl
  have N0 := Fr.nil n0
  refine own_body (Q := fun v h L => v = none ∧ Fr n0 L ∧ h = h0) ?_
  generalize hΦ : own_Fin s below _ _ _ = Φ
  refine own_cast (ef_5_III m (5 : Int32) (0 : Int32) (2 : Int32)) ?_
  show own_Run p e below Φ (s₁.setTop (mkF m 0 #[.val (.int (5 : Int32)), .val (.int (0 : Int32)), .val (.int (2 : Int32))] []))
  refine own_go (fun t k => XS.iloadN X0.here hx rfl (hb hby d5_0) rfl  k) ?_
  refine own_go (fun t k => XS.iloadN X0.here hx rfl (hb hby d5_1) rfl  k) ?_
  refine own_go (fun t k => XS.icmpYes X0.here hx rfl (pc0 := 2) (pc' := 46) rfl (hb hby d5_2) rfl (flt (by decide : ¬ ((2 : Int32) < (0 : Int32)))).2.2.2 (by decide) (by decide) k) ?_
  refine own_go (fun t k => XS.iloadN X0.here hx rfl (hb hby d5_46) rfl  k) ?_
  refine own_go (fun t k => XS.ifYes X0.here hx rfl (pc0 := 47) (pc' := 59) rfl (hb hby d5_47) rfl ((if0 _ _).trans (flt (by decide : ¬ ((0 : Int32) < (0 : Int32)))).2.1) (by decide) (by decide) k) ?_
  show own_Run p e below Φ (s₁.setTop (mkF m 59 #[.val (.int (5 : Int32)), .val (.int (0 : Int32)), .val (.int (2 : Int32))] []))
  refine own_go (fun t k => XS.iloadN X0.here hx rfl (hb hby d5_59) rfl  k) ?_
  refine own_go (fun t k => XS.iloadN X0.here hx rfl (hb hby d5_60) rfl  k) ?_
  refine own_go (fun t k => XS.icmpYes X0.here hx rfl (pc0 := 61) (pc' := 73) rfl (hb hby d5_61) rfl (flt (by decide : ¬ ((5 : Int32) < (2 : Int32)))).2.2.2 (by decide) (by decide) k) ?_
  subst hΦ
  exact own_retV X0 hx Bd.returns hlk (hb hby d5_73) e0 ⟨rfl, N0, rfl⟩ (by decide) (by decide)
set_option maxRecDepth 65536 in
set_option maxHeartbeats 40000000 in
theorem rm_bz2 (l : Launch) (Z : State) (a0 : Array Value) (hw : ∀ d ∈ tables_1, d.before a0 Z = true) (a1 : Addr) (p4 : Int32) (k1 : ClassId) (x0 : Int32) (x1 : Int32) (x2 : Int32) (x3 : Int32) (x4 : Int32) (h0 : Heap) (n0 : Nat) (H1 : Arv Z h0 a1 k1 .int (5 : Int32) [(.int x0), (.int x1), (.int x2), (.int x3), (.int x4)] (.int (0 : Int32))) :
    own_Met l Z (⟨"java/util/Arrays", "binarySearch0", "([IIII)I"⟩ : MethodName) jdk_65_method_59_code 8 (some .int) ({ frames := 0, cells := 0, slots := 0, locals := 0 } : Room) #[(.ref a1), (.int (0 : Int32)), (.int (2 : Int32)), (.int p4)] h0 (fun v h L => v = some (.int (own_bs2 x0 x1 p4)) ∧ Fr n0 L ∧ h = h0) := by
  intro ws
  refine MetFree.of_bodySF (plainFor_of_name pn_c3) hisR ?_
  intro p e s m args below meth c s₁ Bd hml0 hP hK
  obtain ⟨rfl, hZ, hh⟩ := hP
  have hx := Bd.exec
  have hby := Bd.bytes
  have hml : c.maxLocals = 8 := hml0
  have hown : s.vm.findClass "java/util/Arrays" = some m.cls := findClass_of_methodNamed Bd.named
  have hnm := (name_of_methodNamed Bd.named Bd.method).1
  have hlk : meth.locks = false := Bd.notSynchronized
  have X0 : Stand p l e ({ frames := 0, cells := 0, slots := 0, locals := 0 } : Room) s m #[(.ref a1), (.int (0 : Int32)), (.int (2 : Int32)), (.int p4)] below meth c s₁ [] 0 0 := Stand.of_body Bd
  have e0 : s₁.heap = h0 := by rw [← hh, Bd.state]; rfl
  have N0 := Fr.nil n0
  refine own_body (Q := fun v h L => v = some (.int (own_bs2 x0 x1 p4)) ∧ Fr n0 L ∧ h = h0) ?_
  generalize hΦ : own_Fin s below _ _ _ = Φ
  refine own_cast (ef_6_RIII m a1 (0 : Int32) (2 : Int32) p4) ?_
  show own_Run p e below Φ (s₁.setTop (mkF m 0 #[.val (.ref a1), .val (.int (0 : Int32)), .val (.int (2 : Int32)), .val (.int p4), .unset, .unset, .unset, .unset] []))
  refine own_go (fun t k => XS.iloadN X0.here hx rfl (hb hby d6_0) rfl  k) ?_
  refine own_go (fun t k => XS.istore X0.here hx rfl (hb hby d6_1) rfl (l' := #[.val (.ref a1), .val (.int (0 : Int32)), .val (.int (2 : Int32)), .val (.int p4), .val (.int (0 : Int32)), .unset, .unset, .unset]) rfl k) ?_
  refine own_go (fun t k => XS.iloadN X0.here hx rfl (hb hby d6_3) rfl  k) ?_
  refine own_go (fun t k => XS.iconst X0.here hx rfl (hb hby d6_4) k) ?_
  refine own_go (fun t k => XS.isub X0.here hx rfl (hb hby d6_5) rfl k) ?_
  show own_Run p e below Φ (s₁.setTop (mkF m 6 #[.val (.ref a1), .val (.int (0 : Int32)), .val (.int (2 : Int32)), .val (.int p4), .val (.int (0 : Int32)), .unset, .unset, .unset] [(.int ((2 : Int32) - (1 : Int32)))]))
  rw [show ((2 : Int32) - (1 : Int32)) = (1 : Int32) from by decide]
  show own_Run p e below Φ (s₁.setTop (mkF m 6 #[.val (.ref a1), .val (.int (0 : Int32)), .val (.int (2 : Int32)), .val (.int p4), .val (.int (0 : Int32)), .unset, .unset, .unset] [(.int (1 : Int32))]))
  refine own_go (fun t k => XS.istore X0.here hx rfl (hb hby d6_6) rfl (l' := #[.val (.ref a1), .val (.int (0 : Int32)), .val (.int (2 : Int32)), .val (.int p4), .val (.int (0 : Int32)), .val (.int (1 : Int32)), .unset, .unset]) rfl k) ?_
  refine own_go (fun t k => XS.iload X0.here hx rfl (hb hby d6_8) rfl  k) ?_
  refine own_go (fun t k => XS.iload X0.here hx rfl (hb hby d6_10) rfl  k) ?_
  refine own_go (fun t k => XS.icmpNo X0.here hx rfl (hb hby d6_12) rfl (flt (by decide : ¬ ((1 : Int32) < (0 : Int32)))).2.2.1 k) ?_
  refine own_go (fun t k => XS.iload X0.here hx rfl (hb hby d6_15) rfl  k) ?_
  show own_Run p e below Φ (s₁.setTop (mkF m 17 #[.val (.ref a1), .val (.int (0 : Int32)), .val (.int (2 : Int32)), .val (.int p4), .val (.int (0 : Int32)), .val (.int (1 : Int32)), .unset, .unset] [(.int (0 : Int32))]))
  refine own_go (fun t k => XS.iload X0.here hx rfl (hb hby d6_17) rfl  k) ?_
  refine own_go (fun t k => XS.iadd X0.here hx rfl (hb hby d6_19) rfl k) ?_
  show own_Run p e below Φ (s₁.setTop (mkF m 20 #[.val (.ref a1), .val (.int (0 : Int32)), .val (.int (2 : Int32)), .val (.int p4), .val (.int (0 : Int32)), .val (.int (1 : Int32)), .unset, .unset] [(.int ((0 : Int32) + (1 : Int32)))]))
  rw [show ((0 : Int32) + (1 : Int32)) = (1 : Int32) from by decide]
  show own_Run p e below Φ (s₁.setTop (mkF m 20 #[.val (.ref a1), .val (.int (0 : Int32)), .val (.int (2 : Int32)), .val (.int p4), .val (.int (0 : Int32)), .val (.int (1 : Int32)), .unset, .unset] [(.int (1 : Int32))]))
  refine own_go (fun t k => XS.iconst X0.here hx rfl (hb hby d6_20) k) ?_
  refine own_go (fun t k => XS.iushr X0.here hx rfl (hb hby d6_21) rfl k) ?_
  show own_Run p e below Φ (s₁.setTop (mkF m 22 #[.val (.ref a1), .val (.int (0 : Int32)), .val (.int (2 : Int32)), .val (.int p4), .val (.int (0 : Int32)), .val (.int (1 : Int32)), .unset, .unset] [(.int (((1 : Int32).toUInt32 >>> ((1 : Int32) &&& 31).toUInt32).toInt32))]))
  rw [show (((1 : Int32).toUInt32 >>> ((1 : Int32) &&& 31).toUInt32).toInt32) = (0 : Int32) from by decide]
  show own_Run p e below Φ (s₁.setTop (mkF m 22 #[.val (.ref a1), .val (.int (0 : Int32)), .val (.int (2 : Int32)), .val (.int p4), .val (.int (0 : Int32)), .val (.int (1 : Int32)), .unset, .unset] [(.int (0 : Int32))]))
  refine own_go (fun t k => XS.istore X0.here hx rfl (hb hby d6_22) rfl (l' := #[.val (.ref a1), .val (.int (0 : Int32)), .val (.int (2 : Int32)), .val (.int p4), .val (.int (0 : Int32)), .val (.int (1 : Int32)), .val (.int (0 : Int32)), .unset]) rfl k) ?_
  refine own_go (fun t k => XS.aloadN X0.here hx rfl (hb hby d6_24) rfl rfl  k) ?_
  refine own_go (fun t k => XS.iload X0.here hx rfl (hb hby d6_25) rfl  k) ?_
  refine own_iaload X0 hx hZ e0 H1 (j := (0 : Int32)) (v := (.int x0)) ⟨by decide, by decide⟩ rfl (g := (mkF m 27 #[.val (.ref a1), .val (.int (0 : Int32)), .val (.int (2 : Int32)), .val (.int p4), .val (.int (0 : Int32)), .val (.int (1 : Int32)), .val (.int (0 : Int32)), .unset] [(.int (0 : Int32)), (.ref a1)])) rfl rfl (hb hby d6_27) ?_
  refine own_go (fun t k => XS.istore X0.here hx rfl (hb hby d6_28) rfl (l' := #[.val (.ref a1), .val (.int (0 : Int32)), .val (.int (2 : Int32)), .val (.int p4), .val (.int (0 : Int32)), .val (.int (1 : Int32)), .val (.int (0 : Int32)), .val (.int x0)]) rfl k) ?_
  show own_Run p e below Φ (s₁.setTop (mkF m 30 #[.val (.ref a1), .val (.int (0 : Int32)), .val (.int (2 : Int32)), .val (.int p4), .val (.int (0 : Int32)), .val (.int (1 : Int32)), .val (.int (0 : Int32)), .val (.int x0)] []))
  refine own_go (fun t k => XS.iload X0.here hx rfl (hb hby d6_30) rfl  k) ?_
  refine own_go (fun t k => XS.iloadN X0.here hx rfl (hb hby d6_32) rfl  k) ?_
  by_cases hc33 : x0 < p4
  · refine own_go (fun t k => XS.icmpNo X0.here hx rfl (hb hby d6_33) rfl (tlt hc33).2.1 k) ?_
    refine own_go (fun t k => XS.iload X0.here hx rfl (hb hby d6_36) rfl  k) ?_
    refine own_go (fun t k => XS.iconst X0.here hx rfl (hb hby d6_38) k) ?_
    show own_Run p e below Φ (s₁.setTop (mkF m 39 #[.val (.ref a1), .val (.int (0 : Int32)), .val (.int (2 : Int32)), .val (.int p4), .val (.int (0 : Int32)), .val (.int (1 : Int32)), .val (.int (0 : Int32)), .val (.int x0)] [(.int (1 : Int32)), (.int (0 : Int32))]))
    refine own_go (fun t k => XS.iadd X0.here hx rfl (hb hby d6_39) rfl k) ?_
    show own_Run p e below Φ (s₁.setTop (mkF m 40 #[.val (.ref a1), .val (.int (0 : Int32)), .val (.int (2 : Int32)), .val (.int p4), .val (.int (0 : Int32)), .val (.int (1 : Int32)), .val (.int (0 : Int32)), .val (.int x0)] [(.int ((0 : Int32) + (1 : Int32)))]))
    rw [show ((0 : Int32) + (1 : Int32)) = (1 : Int32) from by decide]
    show own_Run p e below Φ (s₁.setTop (mkF m 40 #[.val (.ref a1), .val (.int (0 : Int32)), .val (.int (2 : Int32)), .val (.int p4), .val (.int (0 : Int32)), .val (.int (1 : Int32)), .val (.int (0 : Int32)), .val (.int x0)] [(.int (1 : Int32))]))
    refine own_go (fun t k => XS.istore X0.here hx rfl (hb hby d6_40) rfl (l' := #[.val (.ref a1), .val (.int (0 : Int32)), .val (.int (2 : Int32)), .val (.int p4), .val (.int (1 : Int32)), .val (.int (1 : Int32)), .val (.int (0 : Int32)), .val (.int x0)]) rfl k) ?_
    refine own_go (fun t k => XS.goto X0.here hx rfl (pc0 := 42) (pc' := 63) rfl (hb hby d6_42) (by decide) (by decide) k) ?_
    refine own_go (fun t k => XS.goto X0.here hx rfl (pc0 := 63) (pc' := 8) rfl (hb hby d6_63) (by decide) (by decide) k) ?_
    refine own_go (fun t k => XS.iload X0.here hx rfl (hb hby d6_8) rfl  k) ?_
    refine own_go (fun t k => XS.iload X0.here hx rfl (hb hby d6_10) rfl  k) ?_
    show own_Run p e below Φ (s₁.setTop (mkF m 12 #[.val (.ref a1), .val (.int (0 : Int32)), .val (.int (2 : Int32)), .val (.int p4), .val (.int (1 : Int32)), .val (.int (1 : Int32)), .val (.int (0 : Int32)), .val (.int x0)] [(.int (1 : Int32)), (.int (1 : Int32))]))
    refine own_go (fun t k => XS.icmpNo X0.here hx rfl (hb hby d6_12) rfl (flt (by decide : ¬ ((1 : Int32) < (1 : Int32)))).2.2.1 k) ?_
    refine own_go (fun t k => XS.iload X0.here hx rfl (hb hby d6_15) rfl  k) ?_
    refine own_go (fun t k => XS.iload X0.here hx rfl (hb hby d6_17) rfl  k) ?_
    refine own_go (fun t k => XS.iadd X0.here hx rfl (hb hby d6_19) rfl k) ?_
    show own_Run p e below Φ (s₁.setTop (mkF m 20 #[.val (.ref a1), .val (.int (0 : Int32)), .val (.int (2 : Int32)), .val (.int p4), .val (.int (1 : Int32)), .val (.int (1 : Int32)), .val (.int (0 : Int32)), .val (.int x0)] [(.int ((1 : Int32) + (1 : Int32)))]))
    rw [show ((1 : Int32) + (1 : Int32)) = (2 : Int32) from by decide]
    show own_Run p e below Φ (s₁.setTop (mkF m 20 #[.val (.ref a1), .val (.int (0 : Int32)), .val (.int (2 : Int32)), .val (.int p4), .val (.int (1 : Int32)), .val (.int (1 : Int32)), .val (.int (0 : Int32)), .val (.int x0)] [(.int (2 : Int32))]))
    refine own_go (fun t k => XS.iconst X0.here hx rfl (hb hby d6_20) k) ?_
    refine own_go (fun t k => XS.iushr X0.here hx rfl (hb hby d6_21) rfl k) ?_
    show own_Run p e below Φ (s₁.setTop (mkF m 22 #[.val (.ref a1), .val (.int (0 : Int32)), .val (.int (2 : Int32)), .val (.int p4), .val (.int (1 : Int32)), .val (.int (1 : Int32)), .val (.int (0 : Int32)), .val (.int x0)] [(.int (((2 : Int32).toUInt32 >>> ((1 : Int32) &&& 31).toUInt32).toInt32))]))
    rw [show (((2 : Int32).toUInt32 >>> ((1 : Int32) &&& 31).toUInt32).toInt32) = (1 : Int32) from by decide]
    show own_Run p e below Φ (s₁.setTop (mkF m 22 #[.val (.ref a1), .val (.int (0 : Int32)), .val (.int (2 : Int32)), .val (.int p4), .val (.int (1 : Int32)), .val (.int (1 : Int32)), .val (.int (0 : Int32)), .val (.int x0)] [(.int (1 : Int32))]))
    refine own_go (fun t k => XS.istore X0.here hx rfl (hb hby d6_22) rfl (l' := #[.val (.ref a1), .val (.int (0 : Int32)), .val (.int (2 : Int32)), .val (.int p4), .val (.int (1 : Int32)), .val (.int (1 : Int32)), .val (.int (1 : Int32)), .val (.int x0)]) rfl k) ?_
    refine own_go (fun t k => XS.aloadN X0.here hx rfl (hb hby d6_24) rfl rfl  k) ?_
    refine own_go (fun t k => XS.iload X0.here hx rfl (hb hby d6_25) rfl  k) ?_
    refine own_iaload X0 hx hZ e0 H1 (j := (1 : Int32)) (v := (.int x1)) ⟨by decide, by decide⟩ rfl (g := (mkF m 27 #[.val (.ref a1), .val (.int (0 : Int32)), .val (.int (2 : Int32)), .val (.int p4), .val (.int (1 : Int32)), .val (.int (1 : Int32)), .val (.int (1 : Int32)), .val (.int x0)] [(.int (1 : Int32)), (.ref a1)])) rfl rfl (hb hby d6_27) ?_
    refine own_go (fun t k => XS.istore X0.here hx rfl (hb hby d6_28) rfl (l' := #[.val (.ref a1), .val (.int (0 : Int32)), .val (.int (2 : Int32)), .val (.int p4), .val (.int (1 : Int32)), .val (.int (1 : Int32)), .val (.int (1 : Int32)), .val (.int x1)]) rfl k) ?_
    show own_Run p e below Φ (s₁.setTop (mkF m 30 #[.val (.ref a1), .val (.int (0 : Int32)), .val (.int (2 : Int32)), .val (.int p4), .val (.int (1 : Int32)), .val (.int (1 : Int32)), .val (.int (1 : Int32)), .val (.int x1)] []))
    refine own_go (fun t k => XS.iload X0.here hx rfl (hb hby d6_30) rfl  k) ?_
    refine own_go (fun t k => XS.iloadN X0.here hx rfl (hb hby d6_32) rfl  k) ?_
    by_cases hc33_2 : x1 < p4
    · refine own_go (fun t k => XS.icmpNo X0.here hx rfl (hb hby d6_33) rfl (tlt hc33_2).2.1 k) ?_
      refine own_go (fun t k => XS.iload X0.here hx rfl (hb hby d6_36) rfl  k) ?_
      refine own_go (fun t k => XS.iconst X0.here hx rfl (hb hby d6_38) k) ?_
      show own_Run p e below Φ (s₁.setTop (mkF m 39 #[.val (.ref a1), .val (.int (0 : Int32)), .val (.int (2 : Int32)), .val (.int p4), .val (.int (1 : Int32)), .val (.int (1 : Int32)), .val (.int (1 : Int32)), .val (.int x1)] [(.int (1 : Int32)), (.int (1 : Int32))]))
      refine own_go (fun t k => XS.iadd X0.here hx rfl (hb hby d6_39) rfl k) ?_
      show own_Run p e below Φ (s₁.setTop (mkF m 40 #[.val (.ref a1), .val (.int (0 : Int32)), .val (.int (2 : Int32)), .val (.int p4), .val (.int (1 : Int32)), .val (.int (1 : Int32)), .val (.int (1 : Int32)), .val (.int x1)] [(.int ((1 : Int32) + (1 : Int32)))]))
      rw [show ((1 : Int32) + (1 : Int32)) = (2 : Int32) from by decide]
      show own_Run p e below Φ (s₁.setTop (mkF m 40 #[.val (.ref a1), .val (.int (0 : Int32)), .val (.int (2 : Int32)), .val (.int p4), .val (.int (1 : Int32)), .val (.int (1 : Int32)), .val (.int (1 : Int32)), .val (.int x1)] [(.int (2 : Int32))]))
      refine own_go (fun t k => XS.istore X0.here hx rfl (hb hby d6_40) rfl (l' := #[.val (.ref a1), .val (.int (0 : Int32)), .val (.int (2 : Int32)), .val (.int p4), .val (.int (2 : Int32)), .val (.int (1 : Int32)), .val (.int (1 : Int32)), .val (.int x1)]) rfl k) ?_
      refine own_go (fun t k => XS.goto X0.here hx rfl (pc0 := 42) (pc' := 63) rfl (hb hby d6_42) (by decide) (by decide) k) ?_
      refine own_go (fun t k => XS.goto X0.here hx rfl (pc0 := 63) (pc' := 8) rfl (hb hby d6_63) (by decide) (by decide) k) ?_
      refine own_go (fun t k => XS.iload X0.here hx rfl (hb hby d6_8) rfl  k) ?_
      refine own_go (fun t k => XS.iload X0.here hx rfl (hb hby d6_10) rfl  k) ?_
      show own_Run p e below Φ (s₁.setTop (mkF m 12 #[.val (.ref a1), .val (.int (0 : Int32)), .val (.int (2 : Int32)), .val (.int p4), .val (.int (2 : Int32)), .val (.int (1 : Int32)), .val (.int (1 : Int32)), .val (.int x1)] [(.int (1 : Int32)), (.int (2 : Int32))]))
      refine own_go (fun t k => XS.icmpYes X0.here hx rfl (pc0 := 12) (pc' := 66) rfl (hb hby d6_12) rfl (tlt (by decide : (1 : Int32) < (2 : Int32))).2.2.1 (by decide) (by decide) k) ?_
      refine own_go (fun t k => XS.iload X0.here hx rfl (hb hby d6_66) rfl  k) ?_
      refine own_go (fun t k => XS.iconst X0.here hx rfl (hb hby d6_68) k) ?_
      refine own_go (fun t k => XS.iadd X0.here hx rfl (hb hby d6_69) rfl k) ?_
      show own_Run p e below Φ (s₁.setTop (mkF m 70 #[.val (.ref a1), .val (.int (0 : Int32)), .val (.int (2 : Int32)), .val (.int p4), .val (.int (2 : Int32)), .val (.int (1 : Int32)), .val (.int (1 : Int32)), .val (.int x1)] [(.int ((2 : Int32) + (1 : Int32)))]))
      rw [show ((2 : Int32) + (1 : Int32)) = (3 : Int32) from by decide]
      show own_Run p e below Φ (s₁.setTop (mkF m 70 #[.val (.ref a1), .val (.int (0 : Int32)), .val (.int (2 : Int32)), .val (.int p4), .val (.int (2 : Int32)), .val (.int (1 : Int32)), .val (.int (1 : Int32)), .val (.int x1)] [(.int (3 : Int32))]))
      refine own_go (fun t k => XS.ineg X0.here hx rfl (hb hby d6_70) rfl k) ?_
      show own_Run p e below Φ (s₁.setTop (mkF m 71 #[.val (.ref a1), .val (.int (0 : Int32)), .val (.int (2 : Int32)), .val (.int p4), .val (.int (2 : Int32)), .val (.int (1 : Int32)), .val (.int (1 : Int32)), .val (.int x1)] [(.int (-(3 : Int32)))]))
      rw [show (-(3 : Int32)) = (-3 : Int32) from by decide]
      show own_Run p e below Φ (s₁.setTop (mkF m 71 #[.val (.ref a1), .val (.int (0 : Int32)), .val (.int (2 : Int32)), .val (.int p4), .val (.int (2 : Int32)), .val (.int (1 : Int32)), .val (.int (1 : Int32)), .val (.int x1)] [(.int (-3 : Int32))]))
      subst hΦ
      exact own_retI X0 hx Bd.returns hlk (hb hby d6_71) e0 ⟨(by simp only [own_bs2, if_true, if_false, hc33, hc33_2]), N0, rfl⟩ (by decide) (by decide)
    · refine own_go (fun t k => XS.icmpYes X0.here hx rfl (pc0 := 33) (pc' := 45) rfl (hb hby d6_33) rfl (flt hc33_2).2.1 (by decide) (by decide) k) ?_
      refine own_go (fun t k => XS.iload X0.here hx rfl (hb hby d6_45) rfl  k) ?_
      refine own_go (fun t k => XS.iloadN X0.here hx rfl (hb hby d6_47) rfl  k) ?_
      by_cases hc48 : p4 < x1
      · refine own_go (fun t k => XS.icmpNo X0.here hx rfl (hb hby d6_48) rfl (tlt hc48).2.2.2 k) ?_
        refine own_go (fun t k => XS.iload X0.here hx rfl (hb hby d6_51) rfl  k) ?_
        show own_Run p e below Φ (s₁.setTop (mkF m 53 #[.val (.ref a1), .val (.int (0 : Int32)), .val (.int (2 : Int32)), .val (.int p4), .val (.int (1 : Int32)), .val (.int (1 : Int32)), .val (.int (1 : Int32)), .val (.int x1)] [(.int (1 : Int32))]))
        refine own_go (fun t k => XS.iconst X0.here hx rfl (hb hby d6_53) k) ?_
        refine own_go (fun t k => XS.isub X0.here hx rfl (hb hby d6_54) rfl k) ?_
        show own_Run p e below Φ (s₁.setTop (mkF m 55 #[.val (.ref a1), .val (.int (0 : Int32)), .val (.int (2 : Int32)), .val (.int p4), .val (.int (1 : Int32)), .val (.int (1 : Int32)), .val (.int (1 : Int32)), .val (.int x1)] [(.int ((1 : Int32) - (1 : Int32)))]))
        rw [show ((1 : Int32) - (1 : Int32)) = (0 : Int32) from by decide]
        show own_Run p e below Φ (s₁.setTop (mkF m 55 #[.val (.ref a1), .val (.int (0 : Int32)), .val (.int (2 : Int32)), .val (.int p4), .val (.int (1 : Int32)), .val (.int (1 : Int32)), .val (.int (1 : Int32)), .val (.int x1)] [(.int (0 : Int32))]))
        refine own_go (fun t k => XS.istore X0.here hx rfl (hb hby d6_55) rfl (l' := #[.val (.ref a1), .val (.int (0 : Int32)), .val (.int (2 : Int32)), .val (.int p4), .val (.int (1 : Int32)), .val (.int (0 : Int32)), .val (.int (1 : Int32)), .val (.int x1)]) rfl k) ?_
        refine own_go (fun t k => XS.goto X0.here hx rfl (pc0 := 57) (pc' := 63) rfl (hb hby d6_57) (by decide) (by decide) k) ?_
        refine own_go (fun t k => XS.goto X0.here hx rfl (pc0 := 63) (pc' := 8) rfl (hb hby d6_63) (by decide) (by decide) k) ?_
        refine own_go (fun t k => XS.iload X0.here hx rfl (hb hby d6_8) rfl  k) ?_
        refine own_go (fun t k => XS.iload X0.here hx rfl (hb hby d6_10) rfl  k) ?_
        show own_Run p e below Φ (s₁.setTop (mkF m 12 #[.val (.ref a1), .val (.int (0 : Int32)), .val (.int (2 : Int32)), .val (.int p4), .val (.int (1 : Int32)), .val (.int (0 : Int32)), .val (.int (1 : Int32)), .val (.int x1)] [(.int (0 : Int32)), (.int (1 : Int32))]))
        refine own_go (fun t k => XS.icmpYes X0.here hx rfl (pc0 := 12) (pc' := 66) rfl (hb hby d6_12) rfl (tlt (by decide : (0 : Int32) < (1 : Int32))).2.2.1 (by decide) (by decide) k) ?_
        refine own_go (fun t k => XS.iload X0.here hx rfl (hb hby d6_66) rfl  k) ?_
        refine own_go (fun t k => XS.iconst X0.here hx rfl (hb hby d6_68) k) ?_
        refine own_go (fun t k => XS.iadd X0.here hx rfl (hb hby d6_69) rfl k) ?_
        show own_Run p e below Φ (s₁.setTop (mkF m 70 #[.val (.ref a1), .val (.int (0 : Int32)), .val (.int (2 : Int32)), .val (.int p4), .val (.int (1 : Int32)), .val (.int (0 : Int32)), .val (.int (1 : Int32)), .val (.int x1)] [(.int ((1 : Int32) + (1 : Int32)))]))
        rw [show ((1 : Int32) + (1 : Int32)) = (2 : Int32) from by decide]
        show own_Run p e below Φ (s₁.setTop (mkF m 70 #[.val (.ref a1), .val (.int (0 : Int32)), .val (.int (2 : Int32)), .val (.int p4), .val (.int (1 : Int32)), .val (.int (0 : Int32)), .val (.int (1 : Int32)), .val (.int x1)] [(.int (2 : Int32))]))
        refine own_go (fun t k => XS.ineg X0.here hx rfl (hb hby d6_70) rfl k) ?_
        show own_Run p e below Φ (s₁.setTop (mkF m 71 #[.val (.ref a1), .val (.int (0 : Int32)), .val (.int (2 : Int32)), .val (.int p4), .val (.int (1 : Int32)), .val (.int (0 : Int32)), .val (.int (1 : Int32)), .val (.int x1)] [(.int (-(2 : Int32)))]))
        rw [show (-(2 : Int32)) = (-2 : Int32) from by decide]
        show own_Run p e below Φ (s₁.setTop (mkF m 71 #[.val (.ref a1), .val (.int (0 : Int32)), .val (.int (2 : Int32)), .val (.int p4), .val (.int (1 : Int32)), .val (.int (0 : Int32)), .val (.int (1 : Int32)), .val (.int x1)] [(.int (-2 : Int32))]))
        subst hΦ
        exact own_retI X0 hx Bd.returns hlk (hb hby d6_71) e0 ⟨(by simp only [own_bs2, if_true, if_false, hc33, hc33_2, hc48]), N0, rfl⟩ (by decide) (by decide)
      · refine own_go (fun t k => XS.icmpYes X0.here hx rfl (pc0 := 48) (pc' := 60) rfl (hb hby d6_48) rfl (flt hc48).2.2.2 (by decide) (by decide) k) ?_
        refine own_go (fun t k => XS.iload X0.here hx rfl (hb hby d6_60) rfl  k) ?_
        subst hΦ
        exact own_retI X0 hx Bd.returns hlk (hb hby d6_62) e0 ⟨(by simp only [own_bs2, if_true, if_false, hc33, hc33_2, hc48]), N0, rfl⟩ (by decide) (by decide)
  · refine own_go (fun t k => XS.icmpYes X0.here hx rfl (pc0 := 33) (pc' := 45) rfl (hb hby d6_33) rfl (flt hc33).2.1 (by decide) (by decide) k) ?_
    refine own_go (fun t k => XS.iload X0.here hx rfl (hb hby d6_45) rfl  k) ?_
    refine own_go (fun t k => XS.iloadN X0.here hx rfl (hb hby d6_47) rfl  k) ?_
    show own_Run p e below Φ (s₁.setTop (mkF m 48 #[.val (.ref a1), .val (.int (0 : Int32)), .val (.int (2 : Int32)), .val (.int p4), .val (.int (0 : Int32)), .val (.int (1 : Int32)), .val (.int (0 : Int32)), .val (.int x0)] [(.int p4), (.int x0)]))
    by_cases hc48 : p4 < x0
    · refine own_go (fun t k => XS.icmpNo X0.here hx rfl (hb hby d6_48) rfl (tlt hc48).2.2.2 k) ?_
      refine own_go (fun t k => XS.iload X0.here hx rfl (hb hby d6_51) rfl  k) ?_
      refine own_go (fun t k => XS.iconst X0.here hx rfl (hb hby d6_53) k) ?_
      refine own_go (fun t k => XS.isub X0.here hx rfl (hb hby d6_54) rfl k) ?_
      show own_Run p e below Φ (s₁.setTop (mkF m 55 #[.val (.ref a1), .val (.int (0 : Int32)), .val (.int (2 : Int32)), .val (.int p4), .val (.int (0 : Int32)), .val (.int (1 : Int32)), .val (.int (0 : Int32)), .val (.int x0)] [(.int ((0 : Int32) - (1 : Int32)))]))
      rw [show ((0 : Int32) - (1 : Int32)) = (-1 : Int32) from by decide]
      show own_Run p e below Φ (s₁.setTop (mkF m 55 #[.val (.ref a1), .val (.int (0 : Int32)), .val (.int (2 : Int32)), .val (.int p4), .val (.int (0 : Int32)), .val (.int (1 : Int32)), .val (.int (0 : Int32)), .val (.int x0)] [(.int (-1 : Int32))]))
      refine own_go (fun t k => XS.istore X0.here hx rfl (hb hby d6_55) rfl (l' := #[.val (.ref a1), .val (.int (0 : Int32)), .val (.int (2 : Int32)), .val (.int p4), .val (.int (0 : Int32)), .val (.int (-1 : Int32)), .val (.int (0 : Int32)), .val (.int x0)]) rfl k) ?_
      refine own_go (fun t k => XS.goto X0.here hx rfl (pc0 := 57) (pc' := 63) rfl (hb hby d6_57) (by decide) (by decide) k) ?_
      refine own_go (fun t k => XS.goto X0.here hx rfl (pc0 := 63) (pc' := 8) rfl (hb hby d6_63) (by decide) (by decide) k) ?_
      refine own_go (fun t k => XS.iload X0.here hx rfl (hb hby d6_8) rfl  k) ?_
      refine own_go (fun t k => XS.iload X0.here hx rfl (hb hby d6_10) rfl  k) ?_
      show own_Run p e below Φ (s₁.setTop (mkF m 12 #[.val (.ref a1), .val (.int (0 : Int32)), .val (.int (2 : Int32)), .val (.int p4), .val (.int (0 : Int32)), .val (.int (-1 : Int32)), .val (.int (0 : Int32)), .val (.int x0)] [(.int (-1 : Int32)), (.int (0 : Int32))]))
      refine own_go (fun t k => XS.icmpYes X0.here hx rfl (pc0 := 12) (pc' := 66) rfl (hb hby d6_12) rfl (tlt (by decide : (-1 : Int32) < (0 : Int32))).2.2.1 (by decide) (by decide) k) ?_
      refine own_go (fun t k => XS.iload X0.here hx rfl (hb hby d6_66) rfl  k) ?_
      refine own_go (fun t k => XS.iconst X0.here hx rfl (hb hby d6_68) k) ?_
      refine own_go (fun t k => XS.iadd X0.here hx rfl (hb hby d6_69) rfl k) ?_
      show own_Run p e below Φ (s₁.setTop (mkF m 70 #[.val (.ref a1), .val (.int (0 : Int32)), .val (.int (2 : Int32)), .val (.int p4), .val (.int (0 : Int32)), .val (.int (-1 : Int32)), .val (.int (0 : Int32)), .val (.int x0)] [(.int ((0 : Int32) + (1 : Int32)))]))
      rw [show ((0 : Int32) + (1 : Int32)) = (1 : Int32) from by decide]
      show own_Run p e below Φ (s₁.setTop (mkF m 70 #[.val (.ref a1), .val (.int (0 : Int32)), .val (.int (2 : Int32)), .val (.int p4), .val (.int (0 : Int32)), .val (.int (-1 : Int32)), .val (.int (0 : Int32)), .val (.int x0)] [(.int (1 : Int32))]))
      refine own_go (fun t k => XS.ineg X0.here hx rfl (hb hby d6_70) rfl k) ?_
      show own_Run p e below Φ (s₁.setTop (mkF m 71 #[.val (.ref a1), .val (.int (0 : Int32)), .val (.int (2 : Int32)), .val (.int p4), .val (.int (0 : Int32)), .val (.int (-1 : Int32)), .val (.int (0 : Int32)), .val (.int x0)] [(.int (-(1 : Int32)))]))
      rw [show (-(1 : Int32)) = (-1 : Int32) from by decide]
      show own_Run p e below Φ (s₁.setTop (mkF m 71 #[.val (.ref a1), .val (.int (0 : Int32)), .val (.int (2 : Int32)), .val (.int p4), .val (.int (0 : Int32)), .val (.int (-1 : Int32)), .val (.int (0 : Int32)), .val (.int x0)] [(.int (-1 : Int32))]))
      subst hΦ
      exact own_retI X0 hx Bd.returns hlk (hb hby d6_71) e0 ⟨(by simp only [own_bs2, if_true, if_false, hc33, hc48]), N0, rfl⟩ (by decide) (by decide)
    · refine own_go (fun t k => XS.icmpYes X0.here hx rfl (pc0 := 48) (pc' := 60) rfl (hb hby d6_48) rfl (flt hc48).2.2.2 (by decide) (by decide) k) ?_
      refine own_go (fun t k => XS.iload X0.here hx rfl (hb hby d6_60) rfl  k) ?_
      subst hΦ
      exact own_retI X0 hx Bd.returns hlk (hb hby d6_62) e0 ⟨(by simp only [own_bs2, if_true, if_false, hc33, hc48]), N0, rfl⟩ (by decide) (by decide)
set_option maxRecDepth 65536 in
set_option maxHeartbeats 40000000 in
theorem rm_bs2 (l : Launch) (Z : State) (a0 : Array Value) (hw : ∀ d ∈ tables_1, d.before a0 Z = true) (a1 : Addr) (p4 : Int32) (k1 : ClassId) (x0 : Int32) (x1 : Int32) (x2 : Int32) (x3 : Int32) (x4 : Int32) (h0 : Heap) (n0 : Nat) (H1 : Arv Z h0 a1 k1 .int (5 : Int32) [(.int x0), (.int x1), (.int x2), (.int x3), (.int x4)] (.int (0 : Int32))) :
    own_Met l Z (⟨"java/util/Arrays", "binarySearch", "([IIII)I"⟩ : MethodName) jdk_65_method_58_code 4 (some .int) ({ frames := 1, cells := 0, slots := 0, locals := 19 } : Room) #[(.ref a1), (.int (0 : Int32)), (.int (2 : Int32)), (.int p4)] h0 (fun v h L => v = some (.int (own_bs2 x0 x1 p4)) ∧ Fr n0 L ∧ h = h0) := by
  intro ws
  refine MetFree.of_bodySF (plainFor_of_name pn_c3) hisR ?_
  intro p e s m args below meth c s₁ Bd hml0 hP hK
  obtain ⟨rfl, hZ, hh⟩ := hP
  have hx := Bd.exec
  have hby := Bd.bytes
  have hml : c.maxLocals = 4 := hml0
  have hown : s.vm.findClass "java/util/Arrays" = some m.cls := findClass_of_methodNamed Bd.named
  have hnm := (name_of_methodNamed Bd.named Bd.method).1
  have hlk : meth.locks = false := Bd.notSynchronized
  have X0 : Stand p l e ({ frames := 1, cells := 0, slots := 0, locals := 19 } : Room) s m #[(.ref a1), (.int (0 : Int32)), (.int (2 : Int32)), (.int p4)] below meth c s₁ [] 0 0 := Stand.of_body Bd
  have e0 : s₁.heap = h0 := by rw [← hh, Bd.state]; rfl
  have N0 := Fr.nil n0
  refine own_body (Q := fun v h L => v = some (.int (own_bs2 x0 x1 p4)) ∧ Fr n0 L ∧ h = h0) ?_
  generalize hΦ : own_Fin s below _ _ _ = Φ
  refine own_cast (ef_4_RIII m a1 (0 : Int32) (2 : Int32) p4) ?_
  show own_Run p e below Φ (s₁.setTop (mkF m 0 #[.val (.ref a1), .val (.int (0 : Int32)), .val (.int (2 : Int32)), .val (.int p4)] []))
  refine own_go (fun t k => XS.aloadN X0.here hx rfl (hb hby d4_0) rfl rfl  k) ?_
  refine own_arrlen X0 hx hZ e0 H1 (g := (mkF m 1 #[.val (.ref a1), .val (.int (0 : Int32)), .val (.int (2 : Int32)), .val (.int p4)] [(.ref a1)])) rfl rfl (hb hby d4_1) ?_
  refine own_go (fun t k => XS.iloadN X0.here hx rfl (hb hby d4_2) rfl  k) ?_
  refine own_go (fun t k => XS.iloadN X0.here hx rfl (hb hby d4_3) rfl  k) ?_
  refine own_callS X0 hx hZ (y := (⟨"java/util/Arrays", "rangeCheck", "(III)V"⟩ : MethodName)) (W := 0) (argsL := [(.int (5 : Int32)), (.int (0 : Int32)), (.int (2 : Int32))]) (rest := []) hown (hw _ (List.mem_of_getElem? (i := 26) rfl)) (hw _ (List.mem_of_getElem? (i := 27) rfl)) (hw _ (List.mem_of_getElem? (i := 24) rfl)) (hw _ (List.mem_of_getElem? (i := 28) rfl)) (by decide) (own_bk (rm_rc2 l Z a0 hw  h0 n0 ) hZ (hw _ (List.mem_of_getElem? (i := 28) rfl)) (hw _ (List.mem_of_getElem? (i := 24) rfl)) (by decide) (by decide)) e0 (g := (mkF m 4 #[.val (.ref a1), .val (.int (0 : Int32)), .val (.int (2 : Int32)), .val (.int p4)] [(.int (2 : Int32)), (.int (0 : Int32)), (.int (5 : Int32))])) rfl (by rw [hml]; rfl) (lenOf pd_4 rfl) rfl (by show 2 * 0 + _ ≤ _; exact Nat.le_of_eq rfl) (hb hby d4_4) (by decide) (by decide) (fun v1 T1 h1 L1 X1 e1 q1 => ?_)
  obtain ⟨rfl, M1, s1⟩ := q1
  replace e1 : T1.heap = h0 := e1.trans s1
  have N1 := Fr.app N0 M1
  show own_Run p e below Φ (T1.setTop (mkF m 7 #[.val (.ref a1), .val (.int (0 : Int32)), .val (.int (2 : Int32)), .val (.int p4)] []))
  refine own_go (fun t k => XS.aloadN X1.here hx rfl (hb hby d4_7) rfl rfl  k) ?_
  refine own_go (fun t k => XS.iloadN X1.here hx rfl (hb hby d4_8) rfl  k) ?_
  refine own_go (fun t k => XS.iloadN X1.here hx rfl (hb hby d4_9) rfl  k) ?_
  refine own_go (fun t k => XS.iloadN X1.here hx rfl (hb hby d4_10) rfl  k) ?_
  refine own_callS X1 hx hZ (y := (⟨"java/util/Arrays", "binarySearch0", "([IIII)I"⟩ : MethodName)) (W := 0) (argsL := [(.ref a1), (.int (0 : Int32)), (.int (2 : Int32)), (.int p4)]) (rest := []) hown (hw _ (List.mem_of_getElem? (i := 29) rfl)) (hw _ (List.mem_of_getElem? (i := 30) rfl)) (hw _ (List.mem_of_getElem? (i := 24) rfl)) (hw _ (List.mem_of_getElem? (i := 31) rfl)) (by decide) (own_bk (rm_bz2 l Z a0 hw a1 p4 k1 x0 x1 x2 x3 x4 h0 n0 H1) hZ (hw _ (List.mem_of_getElem? (i := 31) rfl)) (hw _ (List.mem_of_getElem? (i := 24) rfl)) (by decide) (by decide)) e1 (g := (mkF m 11 #[.val (.ref a1), .val (.int (0 : Int32)), .val (.int (2 : Int32)), .val (.int p4)] [(.int p4), (.int (2 : Int32)), (.int (0 : Int32)), (.ref a1)])) rfl (by rw [hml]; rfl) (lenOf pd_3 rfl) rfl (by show 2 * 0 + _ ≤ _; exact Nat.le_of_eq rfl) (hb hby d4_11) (by decide) (by decide) (fun v2 T2 h2 L2 X2 e2 q2 => ?_)
  obtain ⟨rfl, M2, s2⟩ := q2
  replace e2 : T2.heap = h0 := e2.trans s2
  have N2 := Fr.app N1 M2
  show own_Run p e below Φ (T2.setTop (mkF m 14 #[.val (.ref a1), .val (.int (0 : Int32)), .val (.int (2 : Int32)), .val (.int p4)] [(.int (own_bs2 x0 x1 p4))]))
  subst hΦ
  exact own_retI X2 hx Bd.returns hlk (hb hby d4_14) e2 ⟨rfl, N2, rfl⟩ (by decide) (by decide)
set_option maxRecDepth 65536 in
set_option maxHeartbeats 40000000 in
theorem rm_cn2 (l : Launch) (Z : State) (a0 : Array Value) (hw : ∀ d ∈ tables_1, d.before a0 Z = true) (a1 : Addr) (p2 : Int32) (a3 : Addr) (k3 : ClassId) (x0 : Int32) (x1 : Int32) (x2 : Int32) (x3 : Int32) (x4 : Int32) (h0 : Heap) (n0 : Nat) (H1 : Fld Z h0 a1 "com/example/glossyn/glossyn/index/Postings" "documents" "[I" (.ref a3)) (H2 : Fld Z h0 a1 "com/example/glossyn/glossyn/index/Postings" "size" "I" (.int (2 : Int32))) (H3 : Arv Z h0 a3 k3 .int (5 : Int32) [(.int x0), (.int x1), (.int x2), (.int x3), (.int x4)] (.int (0 : Int32))) (hs0 : x0.toInt < x1.toInt) :
    own_Met l Z (⟨"com/example/glossyn/glossyn/index/Postings", "contains", "(I)Z"⟩ : MethodName) prog_22_method_5_code 2 (some .boolean) ({ frames := 2, cells := 0, slots := 0, locals := 34 } : Room) #[(.ref a1), (.int p2)] h0 (fun v h L => v = some (.int (own_y2 x0 x1 p2)) ∧ Fr n0 L ∧ h = h0) := by
  intro ws
  refine MetFree.of_bodySF (plainFor_of_name pn_c1) hisR ?_
  intro p e s m args below meth c s₁ Bd hml0 hP hK
  obtain ⟨rfl, hZ, hh⟩ := hP
  have hx := Bd.exec
  have hby := Bd.bytes
  have hml : c.maxLocals = 2 := hml0
  have hown : s.vm.findClass "com/example/glossyn/glossyn/index/Postings" = some m.cls := findClass_of_methodNamed Bd.named
  have hnm := (name_of_methodNamed Bd.named Bd.method).1
  have hlk : meth.locks = false := Bd.notSynchronized
  have X0 : Stand p l e ({ frames := 2, cells := 0, slots := 0, locals := 34 } : Room) s m #[(.ref a1), (.int p2)] below meth c s₁ [] 0 0 := Stand.of_body Bd
  have e0 : s₁.heap = h0 := by rw [← hh, Bd.state]; rfl
  have N0 := Fr.nil n0
  refine own_body (Q := fun v h L => v = some (.int (own_y2 x0 x1 p2)) ∧ Fr n0 L ∧ h = h0) ?_
  generalize hΦ : own_Fin s below _ _ _ = Φ
  refine own_cast (ef_3_RI m a1 p2) ?_
  show own_Run p e below Φ (s₁.setTop (mkF m 0 #[.val (.ref a1), .val (.int p2)] []))
  refine own_go (fun t k => XS.aloadN X0.here hx rfl (hb hby d3_0) rfl rfl  k) ?_
  obtain ⟨T1, X1, e1, st1⟩ := getF X0 hx hZ hown (host := "") (Or.inl (hw _ (List.mem_of_getElem? (i := 11) rfl))) Via.refl e0 H1 (g := (mkF m 1 #[.val (.ref a1), .val (.int p2)] [(.ref a1)])) rfl rfl (hb hby d3_1)
  refine own_go st1 ?_
  refine own_go (fun t k => XS.iconst X1.here hx rfl (hb hby d3_4) k) ?_
  refine own_go (fun t k => XS.aloadN X1.here hx rfl (hb hby d3_5) rfl rfl  k) ?_
  obtain ⟨T2, X2, e2, st2⟩ := getF X1 hx hZ hown (host := "") (Or.inl (hw _ (List.mem_of_getElem? (i := 15) rfl))) Via.refl e1 H2 (g := (mkF m 6 #[.val (.ref a1), .val (.int p2)] [(.ref a1), (.int (0 : Int32)), (.ref a3)])) rfl rfl (hb hby d3_6)
  refine own_go st2 ?_
  show own_Run p e below Φ (T2.setTop (mkF m 9 #[.val (.ref a1), .val (.int p2)] [(.int (2 : Int32)), (.int (0 : Int32)), (.ref a3)]))
  refine own_go (fun t k => XS.iloadN X2.here hx rfl (hb hby d3_9) rfl  k) ?_
  refine own_callS X2 hx hZ (y := (⟨"java/util/Arrays", "binarySearch", "([IIII)I"⟩ : MethodName)) (W := 0) (argsL := [(.ref a3), (.int (0 : Int32)), (.int (2 : Int32)), (.int p2)]) (rest := []) hown (hw _ (List.mem_of_getElem? (i := 22) rfl)) (hw _ (List.mem_of_getElem? (i := 23) rfl)) (hw _ (List.mem_of_getElem? (i := 24) rfl)) (hw _ (List.mem_of_getElem? (i := 25) rfl)) (by decide) (own_bk (rm_bs2 l Z a0 hw a3 p2 k3 x0 x1 x2 x3 x4 h0 n0 H3) hZ (hw _ (List.mem_of_getElem? (i := 25) rfl)) (hw _ (List.mem_of_getElem? (i := 24) rfl)) (by decide) (by decide)) e2 (g := (mkF m 10 #[.val (.ref a1), .val (.int p2)] [(.int p2), (.int (2 : Int32)), (.int (0 : Int32)), (.ref a3)])) rfl (by rw [hml]; rfl) (lenOf pd_3 rfl) rfl (by show 2 * 0 + _ ≤ _; exact Nat.le_of_eq rfl) (hb hby d3_10) (by decide) (by decide) (fun v3 T3 h3 L3 X3 e3 q3 => ?_)
  obtain ⟨rfl, M3, s3⟩ := q3
  replace e3 : T3.heap = h0 := e3.trans s3
  have N3 := Fr.app N0 M3
  by_cases hc13 : (own_bs2 x0 x1 p2) < (0 : Int32)
  · refine own_go (fun t k => XS.ifYes X3.here hx rfl (pc0 := 13) (pc' := 20) rfl (hb hby d3_13) rfl ((if0 _ _).trans (tlt hc13).1) (by decide) (by decide) k) ?_
    refine own_go (fun t k => XS.iconst X3.here hx rfl (hb hby d3_20) k) ?_
    subst hΦ
    exact own_retN X3 hx (t := .boolean) Bd.returns (by simp) hlk (hb hby d3_21) e3 ⟨(by rw [own_bl2 hs0, if_pos hc13]; rfl), N3, rfl⟩ (by decide) (by decide)
  · refine own_go (fun t k => XS.ifNo X3.here hx rfl (hb hby d3_13) rfl ((if0 _ _).trans (flt hc13).1) k) ?_
    show own_Run p e below Φ (T3.setTop (mkF m 16 #[.val (.ref a1), .val (.int p2)] []))
    refine own_go (fun t k => XS.iconst X3.here hx rfl (hb hby d3_16) k) ?_
    refine own_go (fun t k => XS.goto X3.here hx rfl (pc0 := 17) (pc' := 21) rfl (hb hby d3_17) (by decide) (by decide) k) ?_
    subst hΦ
    exact own_retN X3 hx (t := .boolean) Bd.returns (by simp) hlk (hb hby d3_21) e3 ⟨(by rw [own_bl2 hs0, if_neg hc13]; rfl), N3, rfl⟩ (by decide) (by decide)
set_option maxRecDepth 65536 in
set_option maxHeartbeats 40000000 in
theorem rm_rc3 (l : Launch) (Z : State) (a0 : Array Value) (hw : ∀ d ∈ tables_1, d.before a0 Z = true)  (h0 : Heap) (n0 : Nat)  :
    own_Met l Z (⟨"java/util/Arrays", "rangeCheck", "(III)V"⟩ : MethodName) jdk_65_method_30_code 3 none ({ frames := 0, cells := 0, slots := 0, locals := 0 } : Room) #[(.int (5 : Int32)), (.int (0 : Int32)), (.int (3 : Int32))] h0 (fun v h L => v = none ∧ Fr n0 L ∧ h = h0) := by
  intro ws
  refine MetFree.of_bodySF (plainFor_of_name pn_c3) hisR ?_
  intro p e s m args below meth c s₁ Bd hml0 hP hK
  obtain ⟨rfl, hZ, hh⟩ := hP
  have hx := Bd.exec
  have hby := Bd.bytes
  have hml : c.maxLocals = 3 := hml0
  have hown : s.vm.findClass "java/util/Arrays" = some m.cls := findClass_of_methodNamed Bd.named
  have hnm := (name_of_methodNamed Bd.named Bd.method).1
  have hlk : meth.locks = false := Bd.notSynchronized
  have X0 : Stand p l e ({ frames := 0, cells := 0, slots := 0, locals := 0 } : Room) s m #[(.int (5 : Int32)), (.int (0 : Int32)), (.int (3 : Int32))] below meth c s₁ [] 0 0 := Stand.of_body Bd
  have e0 : s₁.heap = h0 := by rw [← hh, Bd.state]; rfl
  have N0 := Fr.nil n0
  refine own_body (Q := fun v h L => v = none ∧ Fr n0 L ∧ h = h0) ?_
  generalize hΦ : own_Fin s below _ _ _ = Φ
  refine own_cast (ef_5_III m (5 : Int32) (0 : Int32) (3 : Int32)) ?_
  show own_Run p e below Φ (s₁.setTop (mkF m 0 #[.val (.int (5 : Int32)), .val (.int (0 : Int32)), .val (.int (3 : Int32))] []))
  refine own_go (fun t k => XS.iloadN X0.here hx rfl (hb hby d5_0) rfl  k) ?_
  refine own_go (fun t k => XS.iloadN X0.here hx rfl (hb hby d5_1) rfl  k) ?_
  refine own_go (fun t k => XS.icmpYes X0.here hx rfl (pc0 := 2) (pc' := 46) rfl (hb hby d5_2) rfl (flt (by decide : ¬ ((3 : Int32) < (0 : Int32)))).2.2.2 (by decide) (by decide) k) ?_
  refine own_go (fun t k => XS.iloadN X0.here hx rfl (hb hby d5_46) rfl  k) ?_
  refine own_go (fun t k => XS.ifYes X0.here hx rfl (pc0 := 47) (pc' := 59) rfl (hb hby d5_47) rfl ((if0 _ _).trans (flt (by decide : ¬ ((0 : Int32) < (0 : Int32)))).2.1) (by decide) (by decide) k) ?_
  show own_Run p e below Φ (s₁.setTop (mkF m 59 #[.val (.int (5 : Int32)), .val (.int (0 : Int32)), .val (.int (3 : Int32))] []))
  refine own_go (fun t k => XS.iloadN X0.here hx rfl (hb hby d5_59) rfl  k) ?_
  refine own_go (fun t k => XS.iloadN X0.here hx rfl (hb hby d5_60) rfl  k) ?_
  refine own_go (fun t k => XS.icmpYes X0.here hx rfl (pc0 := 61) (pc' := 73) rfl (hb hby d5_61) rfl (flt (by decide : ¬ ((5 : Int32) < (3 : Int32)))).2.2.2 (by decide) (by decide) k) ?_
  subst hΦ
  exact own_retV X0 hx Bd.returns hlk (hb hby d5_73) e0 ⟨rfl, N0, rfl⟩ (by decide) (by decide)
set_option maxRecDepth 65536 in
set_option maxHeartbeats 40000000 in
theorem rm_bz3 (l : Launch) (Z : State) (a0 : Array Value) (hw : ∀ d ∈ tables_1, d.before a0 Z = true) (a1 : Addr) (p4 : Int32) (k1 : ClassId) (x0 : Int32) (x1 : Int32) (x2 : Int32) (x3 : Int32) (x4 : Int32) (h0 : Heap) (n0 : Nat) (H1 : Arv Z h0 a1 k1 .int (5 : Int32) [(.int x0), (.int x1), (.int x2), (.int x3), (.int x4)] (.int (0 : Int32))) :
    own_Met l Z (⟨"java/util/Arrays", "binarySearch0", "([IIII)I"⟩ : MethodName) jdk_65_method_59_code 8 (some .int) ({ frames := 0, cells := 0, slots := 0, locals := 0 } : Room) #[(.ref a1), (.int (0 : Int32)), (.int (3 : Int32)), (.int p4)] h0 (fun v h L => v = some (.int (own_bs3 x0 x1 x2 p4)) ∧ Fr n0 L ∧ h = h0) := by
  intro ws
  refine MetFree.of_bodySF (plainFor_of_name pn_c3) hisR ?_
  intro p e s m args below meth c s₁ Bd hml0 hP hK
  obtain ⟨rfl, hZ, hh⟩ := hP
  have hx := Bd.exec
  have hby := Bd.bytes
  have hml : c.maxLocals = 8 := hml0
  have hown : s.vm.findClass "java/util/Arrays" = some m.cls := findClass_of_methodNamed Bd.named
  have hnm := (name_of_methodNamed Bd.named Bd.method).1
  have hlk : meth.locks = false := Bd.notSynchronized
  have X0 : Stand p l e ({ frames := 0, cells := 0, slots := 0, locals := 0 } : Room) s m #[(.ref a1), (.int (0 : Int32)), (.int (3 : Int32)), (.int p4)] below meth c s₁ [] 0 0 := Stand.of_body Bd
  have e0 : s₁.heap = h0 := by rw [← hh, Bd.state]; rfl
  have N0 := Fr.nil n0
  refine own_body (Q := fun v h L => v = some (.int (own_bs3 x0 x1 x2 p4)) ∧ Fr n0 L ∧ h = h0) ?_
  generalize hΦ : own_Fin s below _ _ _ = Φ
  refine own_cast (ef_6_RIII m a1 (0 : Int32) (3 : Int32) p4) ?_
  show own_Run p e below Φ (s₁.setTop (mkF m 0 #[.val (.ref a1), .val (.int (0 : Int32)), .val (.int (3 : Int32)), .val (.int p4), .unset, .unset, .unset, .unset] []))
  refine own_go (fun t k => XS.iloadN X0.here hx rfl (hb hby d6_0) rfl  k) ?_
  refine own_go (fun t k => XS.istore X0.here hx rfl (hb hby d6_1) rfl (l' := #[.val (.ref a1), .val (.int (0 : Int32)), .val (.int (3 : Int32)), .val (.int p4), .val (.int (0 : Int32)), .unset, .unset, .unset]) rfl k) ?_
  refine own_go (fun t k => XS.iloadN X0.here hx rfl (hb hby d6_3) rfl  k) ?_
  refine own_go (fun t k => XS.iconst X0.here hx rfl (hb hby d6_4) k) ?_
  refine own_go (fun t k => XS.isub X0.here hx rfl (hb hby d6_5) rfl k) ?_
  show own_Run p e below Φ (s₁.setTop (mkF m 6 #[.val (.ref a1), .val (.int (0 : Int32)), .val (.int (3 : Int32)), .val (.int p4), .val (.int (0 : Int32)), .unset, .unset, .unset] [(.int ((3 : Int32) - (1 : Int32)))]))
  rw [show ((3 : Int32) - (1 : Int32)) = (2 : Int32) from by decide]
  show own_Run p e below Φ (s₁.setTop (mkF m 6 #[.val (.ref a1), .val (.int (0 : Int32)), .val (.int (3 : Int32)), .val (.int p4), .val (.int (0 : Int32)), .unset, .unset, .unset] [(.int (2 : Int32))]))
  refine own_go (fun t k => XS.istore X0.here hx rfl (hb hby d6_6) rfl (l' := #[.val (.ref a1), .val (.int (0 : Int32)), .val (.int (3 : Int32)), .val (.int p4), .val (.int (0 : Int32)), .val (.int (2 : Int32)), .unset, .unset]) rfl k) ?_
  refine own_go (fun t k => XS.iload X0.here hx rfl (hb hby d6_8) rfl  k) ?_
  refine own_go (fun t k => XS.iload X0.here hx rfl (hb hby d6_10) rfl  k) ?_
  refine own_go (fun t k => XS.icmpNo X0.here hx rfl (hb hby d6_12) rfl (flt (by decide : ¬ ((2 : Int32) < (0 : Int32)))).2.2.1 k) ?_
  refine own_go (fun t k => XS.iload X0.here hx rfl (hb hby d6_15) rfl  k) ?_
  show own_Run p e below Φ (s₁.setTop (mkF m 17 #[.val (.ref a1), .val (.int (0 : Int32)), .val (.int (3 : Int32)), .val (.int p4), .val (.int (0 : Int32)), .val (.int (2 : Int32)), .unset, .unset] [(.int (0 : Int32))]))
  refine own_go (fun t k => XS.iload X0.here hx rfl (hb hby d6_17) rfl  k) ?_
  refine own_go (fun t k => XS.iadd X0.here hx rfl (hb hby d6_19) rfl k) ?_
  show own_Run p e below Φ (s₁.setTop (mkF m 20 #[.val (.ref a1), .val (.int (0 : Int32)), .val (.int (3 : Int32)), .val (.int p4), .val (.int (0 : Int32)), .val (.int (2 : Int32)), .unset, .unset] [(.int ((0 : Int32) + (2 : Int32)))]))
  rw [show ((0 : Int32) + (2 : Int32)) = (2 : Int32) from by decide]
  show own_Run p e below Φ (s₁.setTop (mkF m 20 #[.val (.ref a1), .val (.int (0 : Int32)), .val (.int (3 : Int32)), .val (.int p4), .val (.int (0 : Int32)), .val (.int (2 : Int32)), .unset, .unset] [(.int (2 : Int32))]))
  refine own_go (fun t k => XS.iconst X0.here hx rfl (hb hby d6_20) k) ?_
  refine own_go (fun t k => XS.iushr X0.here hx rfl (hb hby d6_21) rfl k) ?_
  show own_Run p e below Φ (s₁.setTop (mkF m 22 #[.val (.ref a1), .val (.int (0 : Int32)), .val (.int (3 : Int32)), .val (.int p4), .val (.int (0 : Int32)), .val (.int (2 : Int32)), .unset, .unset] [(.int (((2 : Int32).toUInt32 >>> ((1 : Int32) &&& 31).toUInt32).toInt32))]))
  rw [show (((2 : Int32).toUInt32 >>> ((1 : Int32) &&& 31).toUInt32).toInt32) = (1 : Int32) from by decide]
  show own_Run p e below Φ (s₁.setTop (mkF m 22 #[.val (.ref a1), .val (.int (0 : Int32)), .val (.int (3 : Int32)), .val (.int p4), .val (.int (0 : Int32)), .val (.int (2 : Int32)), .unset, .unset] [(.int (1 : Int32))]))
  refine own_go (fun t k => XS.istore X0.here hx rfl (hb hby d6_22) rfl (l' := #[.val (.ref a1), .val (.int (0 : Int32)), .val (.int (3 : Int32)), .val (.int p4), .val (.int (0 : Int32)), .val (.int (2 : Int32)), .val (.int (1 : Int32)), .unset]) rfl k) ?_
  refine own_go (fun t k => XS.aloadN X0.here hx rfl (hb hby d6_24) rfl rfl  k) ?_
  refine own_go (fun t k => XS.iload X0.here hx rfl (hb hby d6_25) rfl  k) ?_
  refine own_iaload X0 hx hZ e0 H1 (j := (1 : Int32)) (v := (.int x1)) ⟨by decide, by decide⟩ rfl (g := (mkF m 27 #[.val (.ref a1), .val (.int (0 : Int32)), .val (.int (3 : Int32)), .val (.int p4), .val (.int (0 : Int32)), .val (.int (2 : Int32)), .val (.int (1 : Int32)), .unset] [(.int (1 : Int32)), (.ref a1)])) rfl rfl (hb hby d6_27) ?_
  refine own_go (fun t k => XS.istore X0.here hx rfl (hb hby d6_28) rfl (l' := #[.val (.ref a1), .val (.int (0 : Int32)), .val (.int (3 : Int32)), .val (.int p4), .val (.int (0 : Int32)), .val (.int (2 : Int32)), .val (.int (1 : Int32)), .val (.int x1)]) rfl k) ?_
  show own_Run p e below Φ (s₁.setTop (mkF m 30 #[.val (.ref a1), .val (.int (0 : Int32)), .val (.int (3 : Int32)), .val (.int p4), .val (.int (0 : Int32)), .val (.int (2 : Int32)), .val (.int (1 : Int32)), .val (.int x1)] []))
  refine own_go (fun t k => XS.iload X0.here hx rfl (hb hby d6_30) rfl  k) ?_
  refine own_go (fun t k => XS.iloadN X0.here hx rfl (hb hby d6_32) rfl  k) ?_
  by_cases hc33 : x1 < p4
  · refine own_go (fun t k => XS.icmpNo X0.here hx rfl (hb hby d6_33) rfl (tlt hc33).2.1 k) ?_
    refine own_go (fun t k => XS.iload X0.here hx rfl (hb hby d6_36) rfl  k) ?_
    refine own_go (fun t k => XS.iconst X0.here hx rfl (hb hby d6_38) k) ?_
    show own_Run p e below Φ (s₁.setTop (mkF m 39 #[.val (.ref a1), .val (.int (0 : Int32)), .val (.int (3 : Int32)), .val (.int p4), .val (.int (0 : Int32)), .val (.int (2 : Int32)), .val (.int (1 : Int32)), .val (.int x1)] [(.int (1 : Int32)), (.int (1 : Int32))]))
    refine own_go (fun t k => XS.iadd X0.here hx rfl (hb hby d6_39) rfl k) ?_
    show own_Run p e below Φ (s₁.setTop (mkF m 40 #[.val (.ref a1), .val (.int (0 : Int32)), .val (.int (3 : Int32)), .val (.int p4), .val (.int (0 : Int32)), .val (.int (2 : Int32)), .val (.int (1 : Int32)), .val (.int x1)] [(.int ((1 : Int32) + (1 : Int32)))]))
    rw [show ((1 : Int32) + (1 : Int32)) = (2 : Int32) from by decide]
    show own_Run p e below Φ (s₁.setTop (mkF m 40 #[.val (.ref a1), .val (.int (0 : Int32)), .val (.int (3 : Int32)), .val (.int p4), .val (.int (0 : Int32)), .val (.int (2 : Int32)), .val (.int (1 : Int32)), .val (.int x1)] [(.int (2 : Int32))]))
    refine own_go (fun t k => XS.istore X0.here hx rfl (hb hby d6_40) rfl (l' := #[.val (.ref a1), .val (.int (0 : Int32)), .val (.int (3 : Int32)), .val (.int p4), .val (.int (2 : Int32)), .val (.int (2 : Int32)), .val (.int (1 : Int32)), .val (.int x1)]) rfl k) ?_
    refine own_go (fun t k => XS.goto X0.here hx rfl (pc0 := 42) (pc' := 63) rfl (hb hby d6_42) (by decide) (by decide) k) ?_
    refine own_go (fun t k => XS.goto X0.here hx rfl (pc0 := 63) (pc' := 8) rfl (hb hby d6_63) (by decide) (by decide) k) ?_
    refine own_go (fun t k => XS.iload X0.here hx rfl (hb hby d6_8) rfl  k) ?_
    refine own_go (fun t k => XS.iload X0.here hx rfl (hb hby d6_10) rfl  k) ?_
    show own_Run p e below Φ (s₁.setTop (mkF m 12 #[.val (.ref a1), .val (.int (0 : Int32)), .val (.int (3 : Int32)), .val (.int p4), .val (.int (2 : Int32)), .val (.int (2 : Int32)), .val (.int (1 : Int32)), .val (.int x1)] [(.int (2 : Int32)), (.int (2 : Int32))]))
    refine own_go (fun t k => XS.icmpNo X0.here hx rfl (hb hby d6_12) rfl (flt (by decide : ¬ ((2 : Int32) < (2 : Int32)))).2.2.1 k) ?_
    refine own_go (fun t k => XS.iload X0.here hx rfl (hb hby d6_15) rfl  k) ?_
    refine own_go (fun t k => XS.iload X0.here hx rfl (hb hby d6_17) rfl  k) ?_
    refine own_go (fun t k => XS.iadd X0.here hx rfl (hb hby d6_19) rfl k) ?_
    show own_Run p e below Φ (s₁.setTop (mkF m 20 #[.val (.ref a1), .val (.int (0 : Int32)), .val (.int (3 : Int32)), .val (.int p4), .val (.int (2 : Int32)), .val (.int (2 : Int32)), .val (.int (1 : Int32)), .val (.int x1)] [(.int ((2 : Int32) + (2 : Int32)))]))
    rw [show ((2 : Int32) + (2 : Int32)) = (4 : Int32) from by decide]
    show own_Run p e below Φ (s₁.setTop (mkF m 20 #[.val (.ref a1), .val (.int (0 : Int32)), .val (.int (3 : Int32)), .val (.int p4), .val (.int (2 : Int32)), .val (.int (2 : Int32)), .val (.int (1 : Int32)), .val (.int x1)] [(.int (4 : Int32))]))
    refine own_go (fun t k => XS.iconst X0.here hx rfl (hb hby d6_20) k) ?_
    refine own_go (fun t k => XS.iushr X0.here hx rfl (hb hby d6_21) rfl k) ?_
    show own_Run p e below Φ (s₁.setTop (mkF m 22 #[.val (.ref a1), .val (.int (0 : Int32)), .val (.int (3 : Int32)), .val (.int p4), .val (.int (2 : Int32)), .val (.int (2 : Int32)), .val (.int (1 : Int32)), .val (.int x1)] [(.int (((4 : Int32).toUInt32 >>> ((1 : Int32) &&& 31).toUInt32).toInt32))]))
    rw [show (((4 : Int32).toUInt32 >>> ((1 : Int32) &&& 31).toUInt32).toInt32) = (2 : Int32) from by decide]
    show own_Run p e below Φ (s₁.setTop (mkF m 22 #[.val (.ref a1), .val (.int (0 : Int32)), .val (.int (3 : Int32)), .val (.int p4), .val (.int (2 : Int32)), .val (.int (2 : Int32)), .val (.int (1 : Int32)), .val (.int x1)] [(.int (2 : Int32))]))
    refine own_go (fun t k => XS.istore X0.here hx rfl (hb hby d6_22) rfl (l' := #[.val (.ref a1), .val (.int (0 : Int32)), .val (.int (3 : Int32)), .val (.int p4), .val (.int (2 : Int32)), .val (.int (2 : Int32)), .val (.int (2 : Int32)), .val (.int x1)]) rfl k) ?_
    refine own_go (fun t k => XS.aloadN X0.here hx rfl (hb hby d6_24) rfl rfl  k) ?_
    refine own_go (fun t k => XS.iload X0.here hx rfl (hb hby d6_25) rfl  k) ?_
    refine own_iaload X0 hx hZ e0 H1 (j := (2 : Int32)) (v := (.int x2)) ⟨by decide, by decide⟩ rfl (g := (mkF m 27 #[.val (.ref a1), .val (.int (0 : Int32)), .val (.int (3 : Int32)), .val (.int p4), .val (.int (2 : Int32)), .val (.int (2 : Int32)), .val (.int (2 : Int32)), .val (.int x1)] [(.int (2 : Int32)), (.ref a1)])) rfl rfl (hb hby d6_27) ?_
    refine own_go (fun t k => XS.istore X0.here hx rfl (hb hby d6_28) rfl (l' := #[.val (.ref a1), .val (.int (0 : Int32)), .val (.int (3 : Int32)), .val (.int p4), .val (.int (2 : Int32)), .val (.int (2 : Int32)), .val (.int (2 : Int32)), .val (.int x2)]) rfl k) ?_
    show own_Run p e below Φ (s₁.setTop (mkF m 30 #[.val (.ref a1), .val (.int (0 : Int32)), .val (.int (3 : Int32)), .val (.int p4), .val (.int (2 : Int32)), .val (.int (2 : Int32)), .val (.int (2 : Int32)), .val (.int x2)] []))
    refine own_go (fun t k => XS.iload X0.here hx rfl (hb hby d6_30) rfl  k) ?_
    refine own_go (fun t k => XS.iloadN X0.here hx rfl (hb hby d6_32) rfl  k) ?_
    by_cases hc33_2 : x2 < p4
    · refine own_go (fun t k => XS.icmpNo X0.here hx rfl (hb hby d6_33) rfl (tlt hc33_2).2.1 k) ?_
      refine own_go (fun t k => XS.iload X0.here hx rfl (hb hby d6_36) rfl  k) ?_
      refine own_go (fun t k => XS.iconst X0.here hx rfl (hb hby d6_38) k) ?_
      show own_Run p e below Φ (s₁.setTop (mkF m 39 #[.val (.ref a1), .val (.int (0 : Int32)), .val (.int (3 : Int32)), .val (.int p4), .val (.int (2 : Int32)), .val (.int (2 : Int32)), .val (.int (2 : Int32)), .val (.int x2)] [(.int (1 : Int32)), (.int (2 : Int32))]))
      refine own_go (fun t k => XS.iadd X0.here hx rfl (hb hby d6_39) rfl k) ?_
      show own_Run p e below Φ (s₁.setTop (mkF m 40 #[.val (.ref a1), .val (.int (0 : Int32)), .val (.int (3 : Int32)), .val (.int p4), .val (.int (2 : Int32)), .val (.int (2 : Int32)), .val (.int (2 : Int32)), .val (.int x2)] [(.int ((2 : Int32) + (1 : Int32)))]))
      rw [show ((2 : Int32) + (1 : Int32)) = (3 : Int32) from by decide]
      show own_Run p e below Φ (s₁.setTop (mkF m 40 #[.val (.ref a1), .val (.int (0 : Int32)), .val (.int (3 : Int32)), .val (.int p4), .val (.int (2 : Int32)), .val (.int (2 : Int32)), .val (.int (2 : Int32)), .val (.int x2)] [(.int (3 : Int32))]))
      refine own_go (fun t k => XS.istore X0.here hx rfl (hb hby d6_40) rfl (l' := #[.val (.ref a1), .val (.int (0 : Int32)), .val (.int (3 : Int32)), .val (.int p4), .val (.int (3 : Int32)), .val (.int (2 : Int32)), .val (.int (2 : Int32)), .val (.int x2)]) rfl k) ?_
      refine own_go (fun t k => XS.goto X0.here hx rfl (pc0 := 42) (pc' := 63) rfl (hb hby d6_42) (by decide) (by decide) k) ?_
      refine own_go (fun t k => XS.goto X0.here hx rfl (pc0 := 63) (pc' := 8) rfl (hb hby d6_63) (by decide) (by decide) k) ?_
      refine own_go (fun t k => XS.iload X0.here hx rfl (hb hby d6_8) rfl  k) ?_
      refine own_go (fun t k => XS.iload X0.here hx rfl (hb hby d6_10) rfl  k) ?_
      show own_Run p e below Φ (s₁.setTop (mkF m 12 #[.val (.ref a1), .val (.int (0 : Int32)), .val (.int (3 : Int32)), .val (.int p4), .val (.int (3 : Int32)), .val (.int (2 : Int32)), .val (.int (2 : Int32)), .val (.int x2)] [(.int (2 : Int32)), (.int (3 : Int32))]))
      refine own_go (fun t k => XS.icmpYes X0.here hx rfl (pc0 := 12) (pc' := 66) rfl (hb hby d6_12) rfl (tlt (by decide : (2 : Int32) < (3 : Int32))).2.2.1 (by decide) (by decide) k) ?_
      refine own_go (fun t k => XS.iload X0.here hx rfl (hb hby d6_66) rfl  k) ?_
      refine own_go (fun t k => XS.iconst X0.here hx rfl (hb hby d6_68) k) ?_
      refine own_go (fun t k => XS.iadd X0.here hx rfl (hb hby d6_69) rfl k) ?_
      show own_Run p e below Φ (s₁.setTop (mkF m 70 #[.val (.ref a1), .val (.int (0 : Int32)), .val (.int (3 : Int32)), .val (.int p4), .val (.int (3 : Int32)), .val (.int (2 : Int32)), .val (.int (2 : Int32)), .val (.int x2)] [(.int ((3 : Int32) + (1 : Int32)))]))
      rw [show ((3 : Int32) + (1 : Int32)) = (4 : Int32) from by decide]
      show own_Run p e below Φ (s₁.setTop (mkF m 70 #[.val (.ref a1), .val (.int (0 : Int32)), .val (.int (3 : Int32)), .val (.int p4), .val (.int (3 : Int32)), .val (.int (2 : Int32)), .val (.int (2 : Int32)), .val (.int x2)] [(.int (4 : Int32))]))
      refine own_go (fun t k => XS.ineg X0.here hx rfl (hb hby d6_70) rfl k) ?_
      show own_Run p e below Φ (s₁.setTop (mkF m 71 #[.val (.ref a1), .val (.int (0 : Int32)), .val (.int (3 : Int32)), .val (.int p4), .val (.int (3 : Int32)), .val (.int (2 : Int32)), .val (.int (2 : Int32)), .val (.int x2)] [(.int (-(4 : Int32)))]))
      rw [show (-(4 : Int32)) = (-4 : Int32) from by decide]
      show own_Run p e below Φ (s₁.setTop (mkF m 71 #[.val (.ref a1), .val (.int (0 : Int32)), .val (.int (3 : Int32)), .val (.int p4), .val (.int (3 : Int32)), .val (.int (2 : Int32)), .val (.int (2 : Int32)), .val (.int x2)] [(.int (-4 : Int32))]))
      subst hΦ
      exact own_retI X0 hx Bd.returns hlk (hb hby d6_71) e0 ⟨(by simp only [own_bs3, if_true, if_false, hc33, hc33_2]), N0, rfl⟩ (by decide) (by decide)
    · refine own_go (fun t k => XS.icmpYes X0.here hx rfl (pc0 := 33) (pc' := 45) rfl (hb hby d6_33) rfl (flt hc33_2).2.1 (by decide) (by decide) k) ?_
      refine own_go (fun t k => XS.iload X0.here hx rfl (hb hby d6_45) rfl  k) ?_
      refine own_go (fun t k => XS.iloadN X0.here hx rfl (hb hby d6_47) rfl  k) ?_
      by_cases hc48 : p4 < x2
      · refine own_go (fun t k => XS.icmpNo X0.here hx rfl (hb hby d6_48) rfl (tlt hc48).2.2.2 k) ?_
        refine own_go (fun t k => XS.iload X0.here hx rfl (hb hby d6_51) rfl  k) ?_
        show own_Run p e below Φ (s₁.setTop (mkF m 53 #[.val (.ref a1), .val (.int (0 : Int32)), .val (.int (3 : Int32)), .val (.int p4), .val (.int (2 : Int32)), .val (.int (2 : Int32)), .val (.int (2 : Int32)), .val (.int x2)] [(.int (2 : Int32))]))
        refine own_go (fun t k => XS.iconst X0.here hx rfl (hb hby d6_53) k) ?_
        refine own_go (fun t k => XS.isub X0.here hx rfl (hb hby d6_54) rfl k) ?_
        show own_Run p e below Φ (s₁.setTop (mkF m 55 #[.val (.ref a1), .val (.int (0 : Int32)), .val (.int (3 : Int32)), .val (.int p4), .val (.int (2 : Int32)), .val (.int (2 : Int32)), .val (.int (2 : Int32)), .val (.int x2)] [(.int ((2 : Int32) - (1 : Int32)))]))
        rw [show ((2 : Int32) - (1 : Int32)) = (1 : Int32) from by decide]
        show own_Run p e below Φ (s₁.setTop (mkF m 55 #[.val (.ref a1), .val (.int (0 : Int32)), .val (.int (3 : Int32)), .val (.int p4), .val (.int (2 : Int32)), .val (.int (2 : Int32)), .val (.int (2 : Int32)), .val (.int x2)] [(.int (1 : Int32))]))
        refine own_go (fun t k => XS.istore X0.here hx rfl (hb hby d6_55) rfl (l' := #[.val (.ref a1), .val (.int (0 : Int32)), .val (.int (3 : Int32)), .val (.int p4), .val (.int (2 : Int32)), .val (.int (1 : Int32)), .val (.int (2 : Int32)), .val (.int x2)]) rfl k) ?_
        refine own_go (fun t k => XS.goto X0.here hx rfl (pc0 := 57) (pc' := 63) rfl (hb hby d6_57) (by decide) (by decide) k) ?_
        refine own_go (fun t k => XS.goto X0.here hx rfl (pc0 := 63) (pc' := 8) rfl (hb hby d6_63) (by decide) (by decide) k) ?_
        refine own_go (fun t k => XS.iload X0.here hx rfl (hb hby d6_8) rfl  k) ?_
        refine own_go (fun t k => XS.iload X0.here hx rfl (hb hby d6_10) rfl  k) ?_
        show own_Run p e below Φ (s₁.setTop (mkF m 12 #[.val (.ref a1), .val (.int (0 : Int32)), .val (.int (3 : Int32)), .val (.int p4), .val (.int (2 : Int32)), .val (.int (1 : Int32)), .val (.int (2 : Int32)), .val (.int x2)] [(.int (1 : Int32)), (.int (2 : Int32))]))
        refine own_go (fun t k => XS.icmpYes X0.here hx rfl (pc0 := 12) (pc' := 66) rfl (hb hby d6_12) rfl (tlt (by decide : (1 : Int32) < (2 : Int32))).2.2.1 (by decide) (by decide) k) ?_
        refine own_go (fun t k => XS.iload X0.here hx rfl (hb hby d6_66) rfl  k) ?_
        refine own_go (fun t k => XS.iconst X0.here hx rfl (hb hby d6_68) k) ?_
        refine own_go (fun t k => XS.iadd X0.here hx rfl (hb hby d6_69) rfl k) ?_
        show own_Run p e below Φ (s₁.setTop (mkF m 70 #[.val (.ref a1), .val (.int (0 : Int32)), .val (.int (3 : Int32)), .val (.int p4), .val (.int (2 : Int32)), .val (.int (1 : Int32)), .val (.int (2 : Int32)), .val (.int x2)] [(.int ((2 : Int32) + (1 : Int32)))]))
        rw [show ((2 : Int32) + (1 : Int32)) = (3 : Int32) from by decide]
        show own_Run p e below Φ (s₁.setTop (mkF m 70 #[.val (.ref a1), .val (.int (0 : Int32)), .val (.int (3 : Int32)), .val (.int p4), .val (.int (2 : Int32)), .val (.int (1 : Int32)), .val (.int (2 : Int32)), .val (.int x2)] [(.int (3 : Int32))]))
        refine own_go (fun t k => XS.ineg X0.here hx rfl (hb hby d6_70) rfl k) ?_
        show own_Run p e below Φ (s₁.setTop (mkF m 71 #[.val (.ref a1), .val (.int (0 : Int32)), .val (.int (3 : Int32)), .val (.int p4), .val (.int (2 : Int32)), .val (.int (1 : Int32)), .val (.int (2 : Int32)), .val (.int x2)] [(.int (-(3 : Int32)))]))
        rw [show (-(3 : Int32)) = (-3 : Int32) from by decide]
        show own_Run p e below Φ (s₁.setTop (mkF m 71 #[.val (.ref a1), .val (.int (0 : Int32)), .val (.int (3 : Int32)), .val (.int p4), .val (.int (2 : Int32)), .val (.int (1 : Int32)), .val (.int (2 : Int32)), .val (.int x2)] [(.int (-3 : Int32))]))
        subst hΦ
        exact own_retI X0 hx Bd.returns hlk (hb hby d6_71) e0 ⟨(by simp only [own_bs3, if_true, if_false, hc33, hc33_2, hc48]), N0, rfl⟩ (by decide) (by decide)
      · refine own_go (fun t k => XS.icmpYes X0.here hx rfl (pc0 := 48) (pc' := 60) rfl (hb hby d6_48) rfl (flt hc48).2.2.2 (by decide) (by decide) k) ?_
        refine own_go (fun t k => XS.iload X0.here hx rfl (hb hby d6_60) rfl  k) ?_
        subst hΦ
        exact own_retI X0 hx Bd.returns hlk (hb hby d6_62) e0 ⟨(by simp only [own_bs3, if_true, if_false, hc33, hc33_2, hc48]), N0, rfl⟩ (by decide) (by decide)
  · refine own_go (fun t k => XS.icmpYes X0.here hx rfl (pc0 := 33) (pc' := 45) rfl (hb hby d6_33) rfl (flt hc33).2.1 (by decide) (by decide) k) ?_
    refine own_go (fun t k => XS.iload X0.here hx rfl (hb hby d6_45) rfl  k) ?_
    refine own_go (fun t k => XS.iloadN X0.here hx rfl (hb hby d6_47) rfl  k) ?_
    show own_Run p e below Φ (s₁.setTop (mkF m 48 #[.val (.ref a1), .val (.int (0 : Int32)), .val (.int (3 : Int32)), .val (.int p4), .val (.int (0 : Int32)), .val (.int (2 : Int32)), .val (.int (1 : Int32)), .val (.int x1)] [(.int p4), (.int x1)]))
    by_cases hc48 : p4 < x1
    · refine own_go (fun t k => XS.icmpNo X0.here hx rfl (hb hby d6_48) rfl (tlt hc48).2.2.2 k) ?_
      refine own_go (fun t k => XS.iload X0.here hx rfl (hb hby d6_51) rfl  k) ?_
      refine own_go (fun t k => XS.iconst X0.here hx rfl (hb hby d6_53) k) ?_
      refine own_go (fun t k => XS.isub X0.here hx rfl (hb hby d6_54) rfl k) ?_
      show own_Run p e below Φ (s₁.setTop (mkF m 55 #[.val (.ref a1), .val (.int (0 : Int32)), .val (.int (3 : Int32)), .val (.int p4), .val (.int (0 : Int32)), .val (.int (2 : Int32)), .val (.int (1 : Int32)), .val (.int x1)] [(.int ((1 : Int32) - (1 : Int32)))]))
      rw [show ((1 : Int32) - (1 : Int32)) = (0 : Int32) from by decide]
      show own_Run p e below Φ (s₁.setTop (mkF m 55 #[.val (.ref a1), .val (.int (0 : Int32)), .val (.int (3 : Int32)), .val (.int p4), .val (.int (0 : Int32)), .val (.int (2 : Int32)), .val (.int (1 : Int32)), .val (.int x1)] [(.int (0 : Int32))]))
      refine own_go (fun t k => XS.istore X0.here hx rfl (hb hby d6_55) rfl (l' := #[.val (.ref a1), .val (.int (0 : Int32)), .val (.int (3 : Int32)), .val (.int p4), .val (.int (0 : Int32)), .val (.int (0 : Int32)), .val (.int (1 : Int32)), .val (.int x1)]) rfl k) ?_
      refine own_go (fun t k => XS.goto X0.here hx rfl (pc0 := 57) (pc' := 63) rfl (hb hby d6_57) (by decide) (by decide) k) ?_
      refine own_go (fun t k => XS.goto X0.here hx rfl (pc0 := 63) (pc' := 8) rfl (hb hby d6_63) (by decide) (by decide) k) ?_
      refine own_go (fun t k => XS.iload X0.here hx rfl (hb hby d6_8) rfl  k) ?_
      refine own_go (fun t k => XS.iload X0.here hx rfl (hb hby d6_10) rfl  k) ?_
      show own_Run p e below Φ (s₁.setTop (mkF m 12 #[.val (.ref a1), .val (.int (0 : Int32)), .val (.int (3 : Int32)), .val (.int p4), .val (.int (0 : Int32)), .val (.int (0 : Int32)), .val (.int (1 : Int32)), .val (.int x1)] [(.int (0 : Int32)), (.int (0 : Int32))]))
      refine own_go (fun t k => XS.icmpNo X0.here hx rfl (hb hby d6_12) rfl (flt (by decide : ¬ ((0 : Int32) < (0 : Int32)))).2.2.1 k) ?_
      refine own_go (fun t k => XS.iload X0.here hx rfl (hb hby d6_15) rfl  k) ?_
      refine own_go (fun t k => XS.iload X0.here hx rfl (hb hby d6_17) rfl  k) ?_
      refine own_go (fun t k => XS.iadd X0.here hx rfl (hb hby d6_19) rfl k) ?_
      show own_Run p e below Φ (s₁.setTop (mkF m 20 #[.val (.ref a1), .val (.int (0 : Int32)), .val (.int (3 : Int32)), .val (.int p4), .val (.int (0 : Int32)), .val (.int (0 : Int32)), .val (.int (1 : Int32)), .val (.int x1)] [(.int ((0 : Int32) + (0 : Int32)))]))
      rw [show ((0 : Int32) + (0 : Int32)) = (0 : Int32) from by decide]
      show own_Run p e below Φ (s₁.setTop (mkF m 20 #[.val (.ref a1), .val (.int (0 : Int32)), .val (.int (3 : Int32)), .val (.int p4), .val (.int (0 : Int32)), .val (.int (0 : Int32)), .val (.int (1 : Int32)), .val (.int x1)] [(.int (0 : Int32))]))
      refine own_go (fun t k => XS.iconst X0.here hx rfl (hb hby d6_20) k) ?_
      refine own_go (fun t k => XS.iushr X0.here hx rfl (hb hby d6_21) rfl k) ?_
      show own_Run p e below Φ (s₁.setTop (mkF m 22 #[.val (.ref a1), .val (.int (0 : Int32)), .val (.int (3 : Int32)), .val (.int p4), .val (.int (0 : Int32)), .val (.int (0 : Int32)), .val (.int (1 : Int32)), .val (.int x1)] [(.int (((0 : Int32).toUInt32 >>> ((1 : Int32) &&& 31).toUInt32).toInt32))]))
      rw [show (((0 : Int32).toUInt32 >>> ((1 : Int32) &&& 31).toUInt32).toInt32) = (0 : Int32) from by decide]
      show own_Run p e below Φ (s₁.setTop (mkF m 22 #[.val (.ref a1), .val (.int (0 : Int32)), .val (.int (3 : Int32)), .val (.int p4), .val (.int (0 : Int32)), .val (.int (0 : Int32)), .val (.int (1 : Int32)), .val (.int x1)] [(.int (0 : Int32))]))
      refine own_go (fun t k => XS.istore X0.here hx rfl (hb hby d6_22) rfl (l' := #[.val (.ref a1), .val (.int (0 : Int32)), .val (.int (3 : Int32)), .val (.int p4), .val (.int (0 : Int32)), .val (.int (0 : Int32)), .val (.int (0 : Int32)), .val (.int x1)]) rfl k) ?_
      refine own_go (fun t k => XS.aloadN X0.here hx rfl (hb hby d6_24) rfl rfl  k) ?_
      refine own_go (fun t k => XS.iload X0.here hx rfl (hb hby d6_25) rfl  k) ?_
      refine own_iaload X0 hx hZ e0 H1 (j := (0 : Int32)) (v := (.int x0)) ⟨by decide, by decide⟩ rfl (g := (mkF m 27 #[.val (.ref a1), .val (.int (0 : Int32)), .val (.int (3 : Int32)), .val (.int p4), .val (.int (0 : Int32)), .val (.int (0 : Int32)), .val (.int (0 : Int32)), .val (.int x1)] [(.int (0 : Int32)), (.ref a1)])) rfl rfl (hb hby d6_27) ?_
      refine own_go (fun t k => XS.istore X0.here hx rfl (hb hby d6_28) rfl (l' := #[.val (.ref a1), .val (.int (0 : Int32)), .val (.int (3 : Int32)), .val (.int p4), .val (.int (0 : Int32)), .val (.int (0 : Int32)), .val (.int (0 : Int32)), .val (.int x0)]) rfl k) ?_
      show own_Run p e below Φ (s₁.setTop (mkF m 30 #[.val (.ref a1), .val (.int (0 : Int32)), .val (.int (3 : Int32)), .val (.int p4), .val (.int (0 : Int32)), .val (.int (0 : Int32)), .val (.int (0 : Int32)), .val (.int x0)] []))
      refine own_go (fun t k => XS.iload X0.here hx rfl (hb hby d6_30) rfl  k) ?_
      refine own_go (fun t k => XS.iloadN X0.here hx rfl (hb hby d6_32) rfl  k) ?_
      by_cases hc33_2 : x0 < p4
      · refine own_go (fun t k => XS.icmpNo X0.here hx rfl (hb hby d6_33) rfl (tlt hc33_2).2.1 k) ?_
        refine own_go (fun t k => XS.iload X0.here hx rfl (hb hby d6_36) rfl  k) ?_
        refine own_go (fun t k => XS.iconst X0.here hx rfl (hb hby d6_38) k) ?_
        show own_Run p e below Φ (s₁.setTop (mkF m 39 #[.val (.ref a1), .val (.int (0 : Int32)), .val (.int (3 : Int32)), .val (.int p4), .val (.int (0 : Int32)), .val (.int (0 : Int32)), .val (.int (0 : Int32)), .val (.int x0)] [(.int (1 : Int32)), (.int (0 : Int32))]))
        refine own_go (fun t k => XS.iadd X0.here hx rfl (hb hby d6_39) rfl k) ?_
        show own_Run p e below Φ (s₁.setTop (mkF m 40 #[.val (.ref a1), .val (.int (0 : Int32)), .val (.int (3 : Int32)), .val (.int p4), .val (.int (0 : Int32)), .val (.int (0 : Int32)), .val (.int (0 : Int32)), .val (.int x0)] [(.int ((0 : Int32) + (1 : Int32)))]))
        rw [show ((0 : Int32) + (1 : Int32)) = (1 : Int32) from by decide]
        show own_Run p e below Φ (s₁.setTop (mkF m 40 #[.val (.ref a1), .val (.int (0 : Int32)), .val (.int (3 : Int32)), .val (.int p4), .val (.int (0 : Int32)), .val (.int (0 : Int32)), .val (.int (0 : Int32)), .val (.int x0)] [(.int (1 : Int32))]))
        refine own_go (fun t k => XS.istore X0.here hx rfl (hb hby d6_40) rfl (l' := #[.val (.ref a1), .val (.int (0 : Int32)), .val (.int (3 : Int32)), .val (.int p4), .val (.int (1 : Int32)), .val (.int (0 : Int32)), .val (.int (0 : Int32)), .val (.int x0)]) rfl k) ?_
        refine own_go (fun t k => XS.goto X0.here hx rfl (pc0 := 42) (pc' := 63) rfl (hb hby d6_42) (by decide) (by decide) k) ?_
        refine own_go (fun t k => XS.goto X0.here hx rfl (pc0 := 63) (pc' := 8) rfl (hb hby d6_63) (by decide) (by decide) k) ?_
        refine own_go (fun t k => XS.iload X0.here hx rfl (hb hby d6_8) rfl  k) ?_
        refine own_go (fun t k => XS.iload X0.here hx rfl (hb hby d6_10) rfl  k) ?_
        show own_Run p e below Φ (s₁.setTop (mkF m 12 #[.val (.ref a1), .val (.int (0 : Int32)), .val (.int (3 : Int32)), .val (.int p4), .val (.int (1 : Int32)), .val (.int (0 : Int32)), .val (.int (0 : Int32)), .val (.int x0)] [(.int (0 : Int32)), (.int (1 : Int32))]))
        refine own_go (fun t k => XS.icmpYes X0.here hx rfl (pc0 := 12) (pc' := 66) rfl (hb hby d6_12) rfl (tlt (by decide : (0 : Int32) < (1 : Int32))).2.2.1 (by decide) (by decide) k) ?_
        refine own_go (fun t k => XS.iload X0.here hx rfl (hb hby d6_66) rfl  k) ?_
        refine own_go (fun t k => XS.iconst X0.here hx rfl (hb hby d6_68) k) ?_
        refine own_go (fun t k => XS.iadd X0.here hx rfl (hb hby d6_69) rfl k) ?_
        show own_Run p e below Φ (s₁.setTop (mkF m 70 #[.val (.ref a1), .val (.int (0 : Int32)), .val (.int (3 : Int32)), .val (.int p4), .val (.int (1 : Int32)), .val (.int (0 : Int32)), .val (.int (0 : Int32)), .val (.int x0)] [(.int ((1 : Int32) + (1 : Int32)))]))
        rw [show ((1 : Int32) + (1 : Int32)) = (2 : Int32) from by decide]
        show own_Run p e below Φ (s₁.setTop (mkF m 70 #[.val (.ref a1), .val (.int (0 : Int32)), .val (.int (3 : Int32)), .val (.int p4), .val (.int (1 : Int32)), .val (.int (0 : Int32)), .val (.int (0 : Int32)), .val (.int x0)] [(.int (2 : Int32))]))
        refine own_go (fun t k => XS.ineg X0.here hx rfl (hb hby d6_70) rfl k) ?_
        show own_Run p e below Φ (s₁.setTop (mkF m 71 #[.val (.ref a1), .val (.int (0 : Int32)), .val (.int (3 : Int32)), .val (.int p4), .val (.int (1 : Int32)), .val (.int (0 : Int32)), .val (.int (0 : Int32)), .val (.int x0)] [(.int (-(2 : Int32)))]))
        rw [show (-(2 : Int32)) = (-2 : Int32) from by decide]
        show own_Run p e below Φ (s₁.setTop (mkF m 71 #[.val (.ref a1), .val (.int (0 : Int32)), .val (.int (3 : Int32)), .val (.int p4), .val (.int (1 : Int32)), .val (.int (0 : Int32)), .val (.int (0 : Int32)), .val (.int x0)] [(.int (-2 : Int32))]))
        subst hΦ
        exact own_retI X0 hx Bd.returns hlk (hb hby d6_71) e0 ⟨(by simp only [own_bs3, if_true, if_false, hc33, hc33_2, hc48]), N0, rfl⟩ (by decide) (by decide)
      · refine own_go (fun t k => XS.icmpYes X0.here hx rfl (pc0 := 33) (pc' := 45) rfl (hb hby d6_33) rfl (flt hc33_2).2.1 (by decide) (by decide) k) ?_
        refine own_go (fun t k => XS.iload X0.here hx rfl (hb hby d6_45) rfl  k) ?_
        refine own_go (fun t k => XS.iloadN X0.here hx rfl (hb hby d6_47) rfl  k) ?_
        by_cases hc48_2 : p4 < x0
        · refine own_go (fun t k => XS.icmpNo X0.here hx rfl (hb hby d6_48) rfl (tlt hc48_2).2.2.2 k) ?_
          refine own_go (fun t k => XS.iload X0.here hx rfl (hb hby d6_51) rfl  k) ?_
          show own_Run p e below Φ (s₁.setTop (mkF m 53 #[.val (.ref a1), .val (.int (0 : Int32)), .val (.int (3 : Int32)), .val (.int p4), .val (.int (0 : Int32)), .val (.int (0 : Int32)), .val (.int (0 : Int32)), .val (.int x0)] [(.int (0 : Int32))]))
          refine own_go (fun t k => XS.iconst X0.here hx rfl (hb hby d6_53) k) ?_
          refine own_go (fun t k => XS.isub X0.here hx rfl (hb hby d6_54) rfl k) ?_
          show own_Run p e below Φ (s₁.setTop (mkF m 55 #[.val (.ref a1), .val (.int (0 : Int32)), .val (.int (3 : Int32)), .val (.int p4), .val (.int (0 : Int32)), .val (.int (0 : Int32)), .val (.int (0 : Int32)), .val (.int x0)] [(.int ((0 : Int32) - (1 : Int32)))]))
          rw [show ((0 : Int32) - (1 : Int32)) = (-1 : Int32) from by decide]
          show own_Run p e below Φ (s₁.setTop (mkF m 55 #[.val (.ref a1), .val (.int (0 : Int32)), .val (.int (3 : Int32)), .val (.int p4), .val (.int (0 : Int32)), .val (.int (0 : Int32)), .val (.int (0 : Int32)), .val (.int x0)] [(.int (-1 : Int32))]))
          refine own_go (fun t k => XS.istore X0.here hx rfl (hb hby d6_55) rfl (l' := #[.val (.ref a1), .val (.int (0 : Int32)), .val (.int (3 : Int32)), .val (.int p4), .val (.int (0 : Int32)), .val (.int (-1 : Int32)), .val (.int (0 : Int32)), .val (.int x0)]) rfl k) ?_
          refine own_go (fun t k => XS.goto X0.here hx rfl (pc0 := 57) (pc' := 63) rfl (hb hby d6_57) (by decide) (by decide) k) ?_
          refine own_go (fun t k => XS.goto X0.here hx rfl (pc0 := 63) (pc' := 8) rfl (hb hby d6_63) (by decide) (by decide) k) ?_
          refine own_go (fun t k => XS.iload X0.here hx rfl (hb hby d6_8) rfl  k) ?_
          refine own_go (fun t k => XS.iload X0.here hx rfl (hb hby d6_10) rfl  k) ?_
          show own_Run p e below Φ (s₁.setTop (mkF m 12 #[.val (.ref a1), .val (.int (0 : Int32)), .val (.int (3 : Int32)), .val (.int p4), .val (.int (0 : Int32)), .val (.int (-1 : Int32)), .val (.int (0 : Int32)), .val (.int x0)] [(.int (-1 : Int32)), (.int (0 : Int32))]))
          refine own_go (fun t k => XS.icmpYes X0.here hx rfl (pc0 := 12) (pc' := 66) rfl (hb hby d6_12) rfl (tlt (by decide : (-1 : Int32) < (0 : Int32))).2.2.1 (by decide) (by decide) k) ?_
          refine own_go (fun t k => XS.iload X0.here hx rfl (hb hby d6_66) rfl  k) ?_
          refine own_go (fun t k => XS.iconst X0.here hx rfl (hb hby d6_68) k) ?_
          refine own_go (fun t k => XS.iadd X0.here hx rfl (hb hby d6_69) rfl k) ?_
          show own_Run p e below Φ (s₁.setTop (mkF m 70 #[.val (.ref a1), .val (.int (0 : Int32)), .val (.int (3 : Int32)), .val (.int p4), .val (.int (0 : Int32)), .val (.int (-1 : Int32)), .val (.int (0 : Int32)), .val (.int x0)] [(.int ((0 : Int32) + (1 : Int32)))]))
          rw [show ((0 : Int32) + (1 : Int32)) = (1 : Int32) from by decide]
          show own_Run p e below Φ (s₁.setTop (mkF m 70 #[.val (.ref a1), .val (.int (0 : Int32)), .val (.int (3 : Int32)), .val (.int p4), .val (.int (0 : Int32)), .val (.int (-1 : Int32)), .val (.int (0 : Int32)), .val (.int x0)] [(.int (1 : Int32))]))
          refine own_go (fun t k => XS.ineg X0.here hx rfl (hb hby d6_70) rfl k) ?_
          show own_Run p e below Φ (s₁.setTop (mkF m 71 #[.val (.ref a1), .val (.int (0 : Int32)), .val (.int (3 : Int32)), .val (.int p4), .val (.int (0 : Int32)), .val (.int (-1 : Int32)), .val (.int (0 : Int32)), .val (.int x0)] [(.int (-(1 : Int32)))]))
          rw [show (-(1 : Int32)) = (-1 : Int32) from by decide]
          show own_Run p e below Φ (s₁.setTop (mkF m 71 #[.val (.ref a1), .val (.int (0 : Int32)), .val (.int (3 : Int32)), .val (.int p4), .val (.int (0 : Int32)), .val (.int (-1 : Int32)), .val (.int (0 : Int32)), .val (.int x0)] [(.int (-1 : Int32))]))
          subst hΦ
          exact own_retI X0 hx Bd.returns hlk (hb hby d6_71) e0 ⟨(by simp only [own_bs3, if_true, if_false, hc33, hc33_2, hc48, hc48_2]), N0, rfl⟩ (by decide) (by decide)
        · refine own_go (fun t k => XS.icmpYes X0.here hx rfl (pc0 := 48) (pc' := 60) rfl (hb hby d6_48) rfl (flt hc48_2).2.2.2 (by decide) (by decide) k) ?_
          refine own_go (fun t k => XS.iload X0.here hx rfl (hb hby d6_60) rfl  k) ?_
          subst hΦ
          exact own_retI X0 hx Bd.returns hlk (hb hby d6_62) e0 ⟨(by simp only [own_bs3, if_true, if_false, hc33, hc33_2, hc48, hc48_2]), N0, rfl⟩ (by decide) (by decide)
    · refine own_go (fun t k => XS.icmpYes X0.here hx rfl (pc0 := 48) (pc' := 60) rfl (hb hby d6_48) rfl (flt hc48).2.2.2 (by decide) (by decide) k) ?_
      refine own_go (fun t k => XS.iload X0.here hx rfl (hb hby d6_60) rfl  k) ?_
      subst hΦ
      exact own_retI X0 hx Bd.returns hlk (hb hby d6_62) e0 ⟨(by simp only [own_bs3, if_true, if_false, hc33, hc48]), N0, rfl⟩ (by decide) (by decide)
set_option maxRecDepth 65536 in
set_option maxHeartbeats 40000000 in
theorem rm_bs3 (l : Launch) (Z : State) (a0 : Array Value) (hw : ∀ d ∈ tables_1, d.before a0 Z = true) (a1 : Addr) (p4 : Int32) (k1 : ClassId) (x0 : Int32) (x1 : Int32) (x2 : Int32) (x3 : Int32) (x4 : Int32) (h0 : Heap) (n0 : Nat) (H1 : Arv Z h0 a1 k1 .int (5 : Int32) [(.int x0), (.int x1), (.int x2), (.int x3), (.int x4)] (.int (0 : Int32))) :
    own_Met l Z (⟨"java/util/Arrays", "binarySearch", "([IIII)I"⟩ : MethodName) jdk_65_method_58_code 4 (some .int) ({ frames := 1, cells := 0, slots := 0, locals := 19 } : Room) #[(.ref a1), (.int (0 : Int32)), (.int (3 : Int32)), (.int p4)] h0 (fun v h L => v = some (.int (own_bs3 x0 x1 x2 p4)) ∧ Fr n0 L ∧ h = h0) := by
  intro ws
  refine MetFree.of_bodySF (plainFor_of_name pn_c3) hisR ?_
  intro p e s m args below meth c s₁ Bd hml0 hP hK
  obtain ⟨rfl, hZ, hh⟩ := hP
  have hx := Bd.exec
  have hby := Bd.bytes
  have hml : c.maxLocals = 4 := hml0
  have hown : s.vm.findClass "java/util/Arrays" = some m.cls := findClass_of_methodNamed Bd.named
  have hnm := (name_of_methodNamed Bd.named Bd.method).1
  have hlk : meth.locks = false := Bd.notSynchronized
  have X0 : Stand p l e ({ frames := 1, cells := 0, slots := 0, locals := 19 } : Room) s m #[(.ref a1), (.int (0 : Int32)), (.int (3 : Int32)), (.int p4)] below meth c s₁ [] 0 0 := Stand.of_body Bd
  have e0 : s₁.heap = h0 := by rw [← hh, Bd.state]; rfl
  have N0 := Fr.nil n0
  refine own_body (Q := fun v h L => v = some (.int (own_bs3 x0 x1 x2 p4)) ∧ Fr n0 L ∧ h = h0) ?_
  generalize hΦ : own_Fin s below _ _ _ = Φ
  refine own_cast (ef_4_RIII m a1 (0 : Int32) (3 : Int32) p4) ?_
  show own_Run p e below Φ (s₁.setTop (mkF m 0 #[.val (.ref a1), .val (.int (0 : Int32)), .val (.int (3 : Int32)), .val (.int p4)] []))
  refine own_go (fun t k => XS.aloadN X0.here hx rfl (hb hby d4_0) rfl rfl  k) ?_
  refine own_arrlen X0 hx hZ e0 H1 (g := (mkF m 1 #[.val (.ref a1), .val (.int (0 : Int32)), .val (.int (3 : Int32)), .val (.int p4)] [(.ref a1)])) rfl rfl (hb hby d4_1) ?_
  refine own_go (fun t k => XS.iloadN X0.here hx rfl (hb hby d4_2) rfl  k) ?_
  refine own_go (fun t k => XS.iloadN X0.here hx rfl (hb hby d4_3) rfl  k) ?_
  refine own_callS X0 hx hZ (y := (⟨"java/util/Arrays", "rangeCheck", "(III)V"⟩ : MethodName)) (W := 0) (argsL := [(.int (5 : Int32)), (.int (0 : Int32)), (.int (3 : Int32))]) (rest := []) hown (hw _ (List.mem_of_getElem? (i := 26) rfl)) (hw _ (List.mem_of_getElem? (i := 27) rfl)) (hw _ (List.mem_of_getElem? (i := 24) rfl)) (hw _ (List.mem_of_getElem? (i := 28) rfl)) (by decide) (own_bk (rm_rc3 l Z a0 hw  h0 n0 ) hZ (hw _ (List.mem_of_getElem? (i := 28) rfl)) (hw _ (List.mem_of_getElem? (i := 24) rfl)) (by decide) (by decide)) e0 (g := (mkF m 4 #[.val (.ref a1), .val (.int (0 : Int32)), .val (.int (3 : Int32)), .val (.int p4)] [(.int (3 : Int32)), (.int (0 : Int32)), (.int (5 : Int32))])) rfl (by rw [hml]; rfl) (lenOf pd_4 rfl) rfl (by show 2 * 0 + _ ≤ _; exact Nat.le_of_eq rfl) (hb hby d4_4) (by decide) (by decide) (fun v1 T1 h1 L1 X1 e1 q1 => ?_)
  obtain ⟨rfl, M1, s1⟩ := q1
  replace e1 : T1.heap = h0 := e1.trans s1
  have N1 := Fr.app N0 M1
  show own_Run p e below Φ (T1.setTop (mkF m 7 #[.val (.ref a1), .val (.int (0 : Int32)), .val (.int (3 : Int32)), .val (.int p4)] []))
  refine own_go (fun t k => XS.aloadN X1.here hx rfl (hb hby d4_7) rfl rfl  k) ?_
  refine own_go (fun t k => XS.iloadN X1.here hx rfl (hb hby d4_8) rfl  k) ?_
  refine own_go (fun t k => XS.iloadN X1.here hx rfl (hb hby d4_9) rfl  k) ?_
  refine own_go (fun t k => XS.iloadN X1.here hx rfl (hb hby d4_10) rfl  k) ?_
  refine own_callS X1 hx hZ (y := (⟨"java/util/Arrays", "binarySearch0", "([IIII)I"⟩ : MethodName)) (W := 0) (argsL := [(.ref a1), (.int (0 : Int32)), (.int (3 : Int32)), (.int p4)]) (rest := []) hown (hw _ (List.mem_of_getElem? (i := 29) rfl)) (hw _ (List.mem_of_getElem? (i := 30) rfl)) (hw _ (List.mem_of_getElem? (i := 24) rfl)) (hw _ (List.mem_of_getElem? (i := 31) rfl)) (by decide) (own_bk (rm_bz3 l Z a0 hw a1 p4 k1 x0 x1 x2 x3 x4 h0 n0 H1) hZ (hw _ (List.mem_of_getElem? (i := 31) rfl)) (hw _ (List.mem_of_getElem? (i := 24) rfl)) (by decide) (by decide)) e1 (g := (mkF m 11 #[.val (.ref a1), .val (.int (0 : Int32)), .val (.int (3 : Int32)), .val (.int p4)] [(.int p4), (.int (3 : Int32)), (.int (0 : Int32)), (.ref a1)])) rfl (by rw [hml]; rfl) (lenOf pd_3 rfl) rfl (by show 2 * 0 + _ ≤ _; exact Nat.le_of_eq rfl) (hb hby d4_11) (by decide) (by decide) (fun v2 T2 h2 L2 X2 e2 q2 => ?_)
  obtain ⟨rfl, M2, s2⟩ := q2
  replace e2 : T2.heap = h0 := e2.trans s2
  have N2 := Fr.app N1 M2
  show own_Run p e below Φ (T2.setTop (mkF m 14 #[.val (.ref a1), .val (.int (0 : Int32)), .val (.int (3 : Int32)), .val (.int p4)] [(.int (own_bs3 x0 x1 x2 p4))]))
  subst hΦ
  exact own_retI X2 hx Bd.returns hlk (hb hby d4_14) e2 ⟨rfl, N2, rfl⟩ (by decide) (by decide)
set_option maxRecDepth 65536 in
set_option maxHeartbeats 40000000 in
theorem rm_cn3 (l : Launch) (Z : State) (a0 : Array Value) (hw : ∀ d ∈ tables_1, d.before a0 Z = true) (a1 : Addr) (p2 : Int32) (a3 : Addr) (k3 : ClassId) (x0 : Int32) (x1 : Int32) (x2 : Int32) (x3 : Int32) (x4 : Int32) (h0 : Heap) (n0 : Nat) (H1 : Fld Z h0 a1 "com/example/glossyn/glossyn/index/Postings" "documents" "[I" (.ref a3)) (H2 : Fld Z h0 a1 "com/example/glossyn/glossyn/index/Postings" "size" "I" (.int (3 : Int32))) (H3 : Arv Z h0 a3 k3 .int (5 : Int32) [(.int x0), (.int x1), (.int x2), (.int x3), (.int x4)] (.int (0 : Int32))) (hs0 : x0.toInt < x1.toInt) (hs1 : x1.toInt < x2.toInt) :
    own_Met l Z (⟨"com/example/glossyn/glossyn/index/Postings", "contains", "(I)Z"⟩ : MethodName) prog_22_method_5_code 2 (some .boolean) ({ frames := 2, cells := 0, slots := 0, locals := 34 } : Room) #[(.ref a1), (.int p2)] h0 (fun v h L => v = some (.int (own_y3 x0 x1 x2 p2)) ∧ Fr n0 L ∧ h = h0) := by
  intro ws
  refine MetFree.of_bodySF (plainFor_of_name pn_c1) hisR ?_
  intro p e s m args below meth c s₁ Bd hml0 hP hK
  obtain ⟨rfl, hZ, hh⟩ := hP
  have hx := Bd.exec
  have hby := Bd.bytes
  have hml : c.maxLocals = 2 := hml0
  have hown : s.vm.findClass "com/example/glossyn/glossyn/index/Postings" = some m.cls := findClass_of_methodNamed Bd.named
  have hnm := (name_of_methodNamed Bd.named Bd.method).1
  have hlk : meth.locks = false := Bd.notSynchronized
  have X0 : Stand p l e ({ frames := 2, cells := 0, slots := 0, locals := 34 } : Room) s m #[(.ref a1), (.int p2)] below meth c s₁ [] 0 0 := Stand.of_body Bd
  have e0 : s₁.heap = h0 := by rw [← hh, Bd.state]; rfl
  have N0 := Fr.nil n0
  refine own_body (Q := fun v h L => v = some (.int (own_y3 x0 x1 x2 p2)) ∧ Fr n0 L ∧ h = h0) ?_
  generalize hΦ : own_Fin s below _ _ _ = Φ
  refine own_cast (ef_3_RI m a1 p2) ?_
  show own_Run p e below Φ (s₁.setTop (mkF m 0 #[.val (.ref a1), .val (.int p2)] []))
  refine own_go (fun t k => XS.aloadN X0.here hx rfl (hb hby d3_0) rfl rfl  k) ?_
  obtain ⟨T1, X1, e1, st1⟩ := getF X0 hx hZ hown (host := "") (Or.inl (hw _ (List.mem_of_getElem? (i := 11) rfl))) Via.refl e0 H1 (g := (mkF m 1 #[.val (.ref a1), .val (.int p2)] [(.ref a1)])) rfl rfl (hb hby d3_1)
  refine own_go st1 ?_
  refine own_go (fun t k => XS.iconst X1.here hx rfl (hb hby d3_4) k) ?_
  refine own_go (fun t k => XS.aloadN X1.here hx rfl (hb hby d3_5) rfl rfl  k) ?_
  obtain ⟨T2, X2, e2, st2⟩ := getF X1 hx hZ hown (host := "") (Or.inl (hw _ (List.mem_of_getElem? (i := 15) rfl))) Via.refl e1 H2 (g := (mkF m 6 #[.val (.ref a1), .val (.int p2)] [(.ref a1), (.int (0 : Int32)), (.ref a3)])) rfl rfl (hb hby d3_6)
  refine own_go st2 ?_
  show own_Run p e below Φ (T2.setTop (mkF m 9 #[.val (.ref a1), .val (.int p2)] [(.int (3 : Int32)), (.int (0 : Int32)), (.ref a3)]))
  refine own_go (fun t k => XS.iloadN X2.here hx rfl (hb hby d3_9) rfl  k) ?_
  refine own_callS X2 hx hZ (y := (⟨"java/util/Arrays", "binarySearch", "([IIII)I"⟩ : MethodName)) (W := 0) (argsL := [(.ref a3), (.int (0 : Int32)), (.int (3 : Int32)), (.int p2)]) (rest := []) hown (hw _ (List.mem_of_getElem? (i := 22) rfl)) (hw _ (List.mem_of_getElem? (i := 23) rfl)) (hw _ (List.mem_of_getElem? (i := 24) rfl)) (hw _ (List.mem_of_getElem? (i := 25) rfl)) (by decide) (own_bk (rm_bs3 l Z a0 hw a3 p2 k3 x0 x1 x2 x3 x4 h0 n0 H3) hZ (hw _ (List.mem_of_getElem? (i := 25) rfl)) (hw _ (List.mem_of_getElem? (i := 24) rfl)) (by decide) (by decide)) e2 (g := (mkF m 10 #[.val (.ref a1), .val (.int p2)] [(.int p2), (.int (3 : Int32)), (.int (0 : Int32)), (.ref a3)])) rfl (by rw [hml]; rfl) (lenOf pd_3 rfl) rfl (by show 2 * 0 + _ ≤ _; exact Nat.le_of_eq rfl) (hb hby d3_10) (by decide) (by decide) (fun v3 T3 h3 L3 X3 e3 q3 => ?_)
  obtain ⟨rfl, M3, s3⟩ := q3
  replace e3 : T3.heap = h0 := e3.trans s3
  have N3 := Fr.app N0 M3
  by_cases hc13 : (own_bs3 x0 x1 x2 p2) < (0 : Int32)
  · refine own_go (fun t k => XS.ifYes X3.here hx rfl (pc0 := 13) (pc' := 20) rfl (hb hby d3_13) rfl ((if0 _ _).trans (tlt hc13).1) (by decide) (by decide) k) ?_
    refine own_go (fun t k => XS.iconst X3.here hx rfl (hb hby d3_20) k) ?_
    subst hΦ
    exact own_retN X3 hx (t := .boolean) Bd.returns (by simp) hlk (hb hby d3_21) e3 ⟨(by rw [own_bl3 hs0 hs1, if_pos hc13]; rfl), N3, rfl⟩ (by decide) (by decide)
  · refine own_go (fun t k => XS.ifNo X3.here hx rfl (hb hby d3_13) rfl ((if0 _ _).trans (flt hc13).1) k) ?_
    show own_Run p e below Φ (T3.setTop (mkF m 16 #[.val (.ref a1), .val (.int p2)] []))
    refine own_go (fun t k => XS.iconst X3.here hx rfl (hb hby d3_16) k) ?_
    refine own_go (fun t k => XS.goto X3.here hx rfl (pc0 := 17) (pc' := 21) rfl (hb hby d3_17) (by decide) (by decide) k) ?_
    subst hΦ
    exact own_retN X3 hx (t := .boolean) Bd.returns (by simp) hlk (hb hby d3_21) e3 ⟨(by rw [own_bl3 hs0 hs1, if_neg hc13]; rfl), N3, rfl⟩ (by decide) (by decide)
set_option maxRecDepth 65536 in
set_option maxHeartbeats 40000000 in
theorem rm_rc4 (l : Launch) (Z : State) (a0 : Array Value) (hw : ∀ d ∈ tables_1, d.before a0 Z = true)  (h0 : Heap) (n0 : Nat)  :
    own_Met l Z (⟨"java/util/Arrays", "rangeCheck", "(III)V"⟩ : MethodName) jdk_65_method_30_code 3 none ({ frames := 0, cells := 0, slots := 0, locals := 0 } : Room) #[(.int (5 : Int32)), (.int (0 : Int32)), (.int (4 : Int32))] h0 (fun v h L => v = none ∧ Fr n0 L ∧ h = h0) := by
  intro ws
  refine MetFree.of_bodySF (plainFor_of_name pn_c3) hisR ?_
  intro p e s m args below meth c s₁ Bd hml0 hP hK
  obtain ⟨rfl, hZ, hh⟩ := hP
  have hx := Bd.exec
  have hby := Bd.bytes
  have hml : c.maxLocals = 3 := hml0
  have hown : s.vm.findClass "java/util/Arrays" = some m.cls := findClass_of_methodNamed Bd.named
  have hnm := (name_of_methodNamed Bd.named Bd.method).1
  have hlk : meth.locks = false := Bd.notSynchronized
  have X0 : Stand p l e ({ frames := 0, cells := 0, slots := 0, locals := 0 } : Room) s m #[(.int (5 : Int32)), (.int (0 : Int32)), (.int (4 : Int32))] below meth c s₁ [] 0 0 := Stand.of_body Bd
  have e0 : s₁.heap = h0 := by rw [← hh, Bd.state]; rfl
  have N0 := Fr.nil n0
  refine own_body (Q := fun v h L => v = none ∧ Fr n0 L ∧ h = h0) ?_
  generalize hΦ : own_Fin s below _ _ _ = Φ
  refine own_cast (ef_5_III m (5 : Int32) (0 : Int32) (4 : Int32)) ?_
  show own_Run p e below Φ (s₁.setTop (mkF m 0 #[.val (.int (5 : Int32)), .val (.int (0 : Int32)), .val (.int (4 : Int32))] []))
  refine own_go (fun t k => XS.iloadN X0.here hx rfl (hb hby d5_0) rfl  k) ?_
  refine own_go (fun t k => XS.iloadN X0.here hx rfl (hb hby d5_1) rfl  k) ?_
  refine own_go (fun t k => XS.icmpYes X0.here hx rfl (pc0 := 2) (pc' := 46) rfl (hb hby d5_2) rfl (flt (by decide : ¬ ((4 : Int32) < (0 : Int32)))).2.2.2 (by decide) (by decide) k) ?_
  refine own_go (fun t k => XS.iloadN X0.here hx rfl (hb hby d5_46) rfl  k) ?_
  refine own_go (fun t k => XS.ifYes X0.here hx rfl (pc0 := 47) (pc' := 59) rfl (hb hby d5_47) rfl ((if0 _ _).trans (flt (by decide : ¬ ((0 : Int32) < (0 : Int32)))).2.1) (by decide) (by decide) k) ?_
  show own_Run p e below Φ (s₁.setTop (mkF m 59 #[.val (.int (5 : Int32)), .val (.int (0 : Int32)), .val (.int (4 : Int32))] []))
  refine own_go (fun t k => XS.iloadN X0.here hx rfl (hb hby d5_59) rfl  k) ?_
  refine own_go (fun t k => XS.iloadN X0.here hx rfl (hb hby d5_60) rfl  k) ?_
  refine own_go (fun t k => XS.icmpYes X0.here hx rfl (pc0 := 61) (pc' := 73) rfl (hb hby d5_61) rfl (flt (by decide : ¬ ((5 : Int32) < (4 : Int32)))).2.2.2 (by decide) (by decide) k) ?_
  subst hΦ
  exact own_retV X0 hx Bd.returns hlk (hb hby d5_73) e0 ⟨rfl, N0, rfl⟩ (by decide) (by decide)
set_option maxRecDepth 65536 in
set_option maxHeartbeats 40000000 in
theorem rm_bz4 (l : Launch) (Z : State) (a0 : Array Value) (hw : ∀ d ∈ tables_1, d.before a0 Z = true) (a1 : Addr) (p4 : Int32) (k1 : ClassId) (x0 : Int32) (x1 : Int32) (x2 : Int32) (x3 : Int32) (x4 : Int32) (h0 : Heap) (n0 : Nat) (H1 : Arv Z h0 a1 k1 .int (5 : Int32) [(.int x0), (.int x1), (.int x2), (.int x3), (.int x4)] (.int (0 : Int32))) :
    own_Met l Z (⟨"java/util/Arrays", "binarySearch0", "([IIII)I"⟩ : MethodName) jdk_65_method_59_code 8 (some .int) ({ frames := 0, cells := 0, slots := 0, locals := 0 } : Room) #[(.ref a1), (.int (0 : Int32)), (.int (4 : Int32)), (.int p4)] h0 (fun v h L => v = some (.int (own_bs4 x0 x1 x2 x3 p4)) ∧ Fr n0 L ∧ h = h0) := by
  intro ws
  refine MetFree.of_bodySF (plainFor_of_name pn_c3) hisR ?_
  intro p e s m args below meth c s₁ Bd hml0 hP hK
  obtain ⟨rfl, hZ, hh⟩ := hP
  have hx := Bd.exec
  have hby := Bd.bytes
  have hml : c.maxLocals = 8 := hml0
  have hown : s.vm.findClass "java/util/Arrays" = some m.cls := findClass_of_methodNamed Bd.named
  have hnm := (name_of_methodNamed Bd.named Bd.method).1
  have hlk : meth.locks = false := Bd.notSynchronized
  have X0 : Stand p l e ({ frames := 0, cells := 0, slots := 0, locals := 0 } : Room) s m #[(.ref a1), (.int (0 : Int32)), (.int (4 : Int32)), (.int p4)] below meth c s₁ [] 0 0 := Stand.of_body Bd
  have e0 : s₁.heap = h0 := by rw [← hh, Bd.state]; rfl
  have N0 := Fr.nil n0
  refine own_body (Q := fun v h L => v = some (.int (own_bs4 x0 x1 x2 x3 p4)) ∧ Fr n0 L ∧ h = h0) ?_
  generalize hΦ : own_Fin s below _ _ _ = Φ
  refine own_cast (ef_6_RIII m a1 (0 : Int32) (4 : Int32) p4) ?_
  show own_Run p e below Φ (s₁.setTop (mkF m 0 #[.val (.ref a1), .val (.int (0 : Int32)), .val (.int (4 : Int32)), .val (.int p4), .unset, .unset, .unset, .unset] []))
  refine own_go (fun t k => XS.iloadN X0.here hx rfl (hb hby d6_0) rfl  k) ?_
  refine own_go (fun t k => XS.istore X0.here hx rfl (hb hby d6_1) rfl (l' := #[.val (.ref a1), .val (.int (0 : Int32)), .val (.int (4 : Int32)), .val (.int p4), .val (.int (0 : Int32)), .unset, .unset, .unset]) rfl k) ?_
  refine own_go (fun t k => XS.iloadN X0.here hx rfl (hb hby d6_3) rfl  k) ?_
  refine own_go (fun t k => XS.iconst X0.here hx rfl (hb hby d6_4) k) ?_
  refine own_go (fun t k => XS.isub X0.here hx rfl (hb hby d6_5) rfl k) ?_
  show own_Run p e below Φ (s₁.setTop (mkF m 6 #[.val (.ref a1), .val (.int (0 : Int32)), .val (.int (4 : Int32)), .val (.int p4), .val (.int (0 : Int32)), .unset, .unset, .unset] [(.int ((4 : Int32) - (1 : Int32)))]))
  rw [show ((4 : Int32) - (1 : Int32)) = (3 : Int32) from by decide]
  show own_Run p e below Φ (s₁.setTop (mkF m 6 #[.val (.ref a1), .val (.int (0 : Int32)), .val (.int (4 : Int32)), .val (.int p4), .val (.int (0 : Int32)), .unset, .unset, .unset] [(.int (3 : Int32))]))
  refine own_go (fun t k => XS.istore X0.here hx rfl (hb hby d6_6) rfl (l' := #[.val (.ref a1), .val (.int (0 : Int32)), .val (.int (4 : Int32)), .val (.int p4), .val (.int (0 : Int32)), .val (.int (3 : Int32)), .unset, .unset]) rfl k) ?_
  refine own_go (fun t k => XS.iload X0.here hx rfl (hb hby d6_8) rfl  k) ?_
  refine own_go (fun t k => XS.iload X0.here hx rfl (hb hby d6_10) rfl  k) ?_
  refine own_go (fun t k => XS.icmpNo X0.here hx rfl (hb hby d6_12) rfl (flt (by decide : ¬ ((3 : Int32) < (0 : Int32)))).2.2.1 k) ?_
  refine own_go (fun t k => XS.iload X0.here hx rfl (hb hby d6_15) rfl  k) ?_
  show own_Run p e below Φ (s₁.setTop (mkF m 17 #[.val (.ref a1), .val (.int (0 : Int32)), .val (.int (4 : Int32)), .val (.int p4), .val (.int (0 : Int32)), .val (.int (3 : Int32)), .unset, .unset] [(.int (0 : Int32))]))
  refine own_go (fun t k => XS.iload X0.here hx rfl (hb hby d6_17) rfl  k) ?_
  refine own_go (fun t k => XS.iadd X0.here hx rfl (hb hby d6_19) rfl k) ?_
  show own_Run p e below Φ (s₁.setTop (mkF m 20 #[.val (.ref a1), .val (.int (0 : Int32)), .val (.int (4 : Int32)), .val (.int p4), .val (.int (0 : Int32)), .val (.int (3 : Int32)), .unset, .unset] [(.int ((0 : Int32) + (3 : Int32)))]))
  rw [show ((0 : Int32) + (3 : Int32)) = (3 : Int32) from by decide]
  show own_Run p e below Φ (s₁.setTop (mkF m 20 #[.val (.ref a1), .val (.int (0 : Int32)), .val (.int (4 : Int32)), .val (.int p4), .val (.int (0 : Int32)), .val (.int (3 : Int32)), .unset, .unset] [(.int (3 : Int32))]))
  refine own_go (fun t k => XS.iconst X0.here hx rfl (hb hby d6_20) k) ?_
  refine own_go (fun t k => XS.iushr X0.here hx rfl (hb hby d6_21) rfl k) ?_
  show own_Run p e below Φ (s₁.setTop (mkF m 22 #[.val (.ref a1), .val (.int (0 : Int32)), .val (.int (4 : Int32)), .val (.int p4), .val (.int (0 : Int32)), .val (.int (3 : Int32)), .unset, .unset] [(.int (((3 : Int32).toUInt32 >>> ((1 : Int32) &&& 31).toUInt32).toInt32))]))
  rw [show (((3 : Int32).toUInt32 >>> ((1 : Int32) &&& 31).toUInt32).toInt32) = (1 : Int32) from by decide]
  show own_Run p e below Φ (s₁.setTop (mkF m 22 #[.val (.ref a1), .val (.int (0 : Int32)), .val (.int (4 : Int32)), .val (.int p4), .val (.int (0 : Int32)), .val (.int (3 : Int32)), .unset, .unset] [(.int (1 : Int32))]))
  refine own_go (fun t k => XS.istore X0.here hx rfl (hb hby d6_22) rfl (l' := #[.val (.ref a1), .val (.int (0 : Int32)), .val (.int (4 : Int32)), .val (.int p4), .val (.int (0 : Int32)), .val (.int (3 : Int32)), .val (.int (1 : Int32)), .unset]) rfl k) ?_
  refine own_go (fun t k => XS.aloadN X0.here hx rfl (hb hby d6_24) rfl rfl  k) ?_
  refine own_go (fun t k => XS.iload X0.here hx rfl (hb hby d6_25) rfl  k) ?_
  refine own_iaload X0 hx hZ e0 H1 (j := (1 : Int32)) (v := (.int x1)) ⟨by decide, by decide⟩ rfl (g := (mkF m 27 #[.val (.ref a1), .val (.int (0 : Int32)), .val (.int (4 : Int32)), .val (.int p4), .val (.int (0 : Int32)), .val (.int (3 : Int32)), .val (.int (1 : Int32)), .unset] [(.int (1 : Int32)), (.ref a1)])) rfl rfl (hb hby d6_27) ?_
  refine own_go (fun t k => XS.istore X0.here hx rfl (hb hby d6_28) rfl (l' := #[.val (.ref a1), .val (.int (0 : Int32)), .val (.int (4 : Int32)), .val (.int p4), .val (.int (0 : Int32)), .val (.int (3 : Int32)), .val (.int (1 : Int32)), .val (.int x1)]) rfl k) ?_
  show own_Run p e below Φ (s₁.setTop (mkF m 30 #[.val (.ref a1), .val (.int (0 : Int32)), .val (.int (4 : Int32)), .val (.int p4), .val (.int (0 : Int32)), .val (.int (3 : Int32)), .val (.int (1 : Int32)), .val (.int x1)] []))
  refine own_go (fun t k => XS.iload X0.here hx rfl (hb hby d6_30) rfl  k) ?_
  refine own_go (fun t k => XS.iloadN X0.here hx rfl (hb hby d6_32) rfl  k) ?_
  by_cases hc33 : x1 < p4
  · refine own_go (fun t k => XS.icmpNo X0.here hx rfl (hb hby d6_33) rfl (tlt hc33).2.1 k) ?_
    refine own_go (fun t k => XS.iload X0.here hx rfl (hb hby d6_36) rfl  k) ?_
    refine own_go (fun t k => XS.iconst X0.here hx rfl (hb hby d6_38) k) ?_
    show own_Run p e below Φ (s₁.setTop (mkF m 39 #[.val (.ref a1), .val (.int (0 : Int32)), .val (.int (4 : Int32)), .val (.int p4), .val (.int (0 : Int32)), .val (.int (3 : Int32)), .val (.int (1 : Int32)), .val (.int x1)] [(.int (1 : Int32)), (.int (1 : Int32))]))
    refine own_go (fun t k => XS.iadd X0.here hx rfl (hb hby d6_39) rfl k) ?_
    show own_Run p e below Φ (s₁.setTop (mkF m 40 #[.val (.ref a1), .val (.int (0 : Int32)), .val (.int (4 : Int32)), .val (.int p4), .val (.int (0 : Int32)), .val (.int (3 : Int32)), .val (.int (1 : Int32)), .val (.int x1)] [(.int ((1 : Int32) + (1 : Int32)))]))
    rw [show ((1 : Int32) + (1 : Int32)) = (2 : Int32) from by decide]
    show own_Run p e below Φ (s₁.setTop (mkF m 40 #[.val (.ref a1), .val (.int (0 : Int32)), .val (.int (4 : Int32)), .val (.int p4), .val (.int (0 : Int32)), .val (.int (3 : Int32)), .val (.int (1 : Int32)), .val (.int x1)] [(.int (2 : Int32))]))
    refine own_go (fun t k => XS.istore X0.here hx rfl (hb hby d6_40) rfl (l' := #[.val (.ref a1), .val (.int (0 : Int32)), .val (.int (4 : Int32)), .val (.int p4), .val (.int (2 : Int32)), .val (.int (3 : Int32)), .val (.int (1 : Int32)), .val (.int x1)]) rfl k) ?_
    refine own_go (fun t k => XS.goto X0.here hx rfl (pc0 := 42) (pc' := 63) rfl (hb hby d6_42) (by decide) (by decide) k) ?_
    refine own_go (fun t k => XS.goto X0.here hx rfl (pc0 := 63) (pc' := 8) rfl (hb hby d6_63) (by decide) (by decide) k) ?_
    refine own_go (fun t k => XS.iload X0.here hx rfl (hb hby d6_8) rfl  k) ?_
    refine own_go (fun t k => XS.iload X0.here hx rfl (hb hby d6_10) rfl  k) ?_
    show own_Run p e below Φ (s₁.setTop (mkF m 12 #[.val (.ref a1), .val (.int (0 : Int32)), .val (.int (4 : Int32)), .val (.int p4), .val (.int (2 : Int32)), .val (.int (3 : Int32)), .val (.int (1 : Int32)), .val (.int x1)] [(.int (3 : Int32)), (.int (2 : Int32))]))
    refine own_go (fun t k => XS.icmpNo X0.here hx rfl (hb hby d6_12) rfl (flt (by decide : ¬ ((3 : Int32) < (2 : Int32)))).2.2.1 k) ?_
    refine own_go (fun t k => XS.iload X0.here hx rfl (hb hby d6_15) rfl  k) ?_
    refine own_go (fun t k => XS.iload X0.here hx rfl (hb hby d6_17) rfl  k) ?_
    refine own_go (fun t k => XS.iadd X0.here hx rfl (hb hby d6_19) rfl k) ?_
    show own_Run p e below Φ (s₁.setTop (mkF m 20 #[.val (.ref a1), .val (.int (0 : Int32)), .val (.int (4 : Int32)), .val (.int p4), .val (.int (2 : Int32)), .val (.int (3 : Int32)), .val (.int (1 : Int32)), .val (.int x1)] [(.int ((2 : Int32) + (3 : Int32)))]))
    rw [show ((2 : Int32) + (3 : Int32)) = (5 : Int32) from by decide]
    show own_Run p e below Φ (s₁.setTop (mkF m 20 #[.val (.ref a1), .val (.int (0 : Int32)), .val (.int (4 : Int32)), .val (.int p4), .val (.int (2 : Int32)), .val (.int (3 : Int32)), .val (.int (1 : Int32)), .val (.int x1)] [(.int (5 : Int32))]))
    refine own_go (fun t k => XS.iconst X0.here hx rfl (hb hby d6_20) k) ?_
    refine own_go (fun t k => XS.iushr X0.here hx rfl (hb hby d6_21) rfl k) ?_
    show own_Run p e below Φ (s₁.setTop (mkF m 22 #[.val (.ref a1), .val (.int (0 : Int32)), .val (.int (4 : Int32)), .val (.int p4), .val (.int (2 : Int32)), .val (.int (3 : Int32)), .val (.int (1 : Int32)), .val (.int x1)] [(.int (((5 : Int32).toUInt32 >>> ((1 : Int32) &&& 31).toUInt32).toInt32))]))
    rw [show (((5 : Int32).toUInt32 >>> ((1 : Int32) &&& 31).toUInt32).toInt32) = (2 : Int32) from by decide]
    show own_Run p e below Φ (s₁.setTop (mkF m 22 #[.val (.ref a1), .val (.int (0 : Int32)), .val (.int (4 : Int32)), .val (.int p4), .val (.int (2 : Int32)), .val (.int (3 : Int32)), .val (.int (1 : Int32)), .val (.int x1)] [(.int (2 : Int32))]))
    refine own_go (fun t k => XS.istore X0.here hx rfl (hb hby d6_22) rfl (l' := #[.val (.ref a1), .val (.int (0 : Int32)), .val (.int (4 : Int32)), .val (.int p4), .val (.int (2 : Int32)), .val (.int (3 : Int32)), .val (.int (2 : Int32)), .val (.int x1)]) rfl k) ?_
    refine own_go (fun t k => XS.aloadN X0.here hx rfl (hb hby d6_24) rfl rfl  k) ?_
    refine own_go (fun t k => XS.iload X0.here hx rfl (hb hby d6_25) rfl  k) ?_
    refine own_iaload X0 hx hZ e0 H1 (j := (2 : Int32)) (v := (.int x2)) ⟨by decide, by decide⟩ rfl (g := (mkF m 27 #[.val (.ref a1), .val (.int (0 : Int32)), .val (.int (4 : Int32)), .val (.int p4), .val (.int (2 : Int32)), .val (.int (3 : Int32)), .val (.int (2 : Int32)), .val (.int x1)] [(.int (2 : Int32)), (.ref a1)])) rfl rfl (hb hby d6_27) ?_
    refine own_go (fun t k => XS.istore X0.here hx rfl (hb hby d6_28) rfl (l' := #[.val (.ref a1), .val (.int (0 : Int32)), .val (.int (4 : Int32)), .val (.int p4), .val (.int (2 : Int32)), .val (.int (3 : Int32)), .val (.int (2 : Int32)), .val (.int x2)]) rfl k) ?_
    show own_Run p e below Φ (s₁.setTop (mkF m 30 #[.val (.ref a1), .val (.int (0 : Int32)), .val (.int (4 : Int32)), .val (.int p4), .val (.int (2 : Int32)), .val (.int (3 : Int32)), .val (.int (2 : Int32)), .val (.int x2)] []))
    refine own_go (fun t k => XS.iload X0.here hx rfl (hb hby d6_30) rfl  k) ?_
    refine own_go (fun t k => XS.iloadN X0.here hx rfl (hb hby d6_32) rfl  k) ?_
    by_cases hc33_2 : x2 < p4
    · refine own_go (fun t k => XS.icmpNo X0.here hx rfl (hb hby d6_33) rfl (tlt hc33_2).2.1 k) ?_
      refine own_go (fun t k => XS.iload X0.here hx rfl (hb hby d6_36) rfl  k) ?_
      refine own_go (fun t k => XS.iconst X0.here hx rfl (hb hby d6_38) k) ?_
      show own_Run p e below Φ (s₁.setTop (mkF m 39 #[.val (.ref a1), .val (.int (0 : Int32)), .val (.int (4 : Int32)), .val (.int p4), .val (.int (2 : Int32)), .val (.int (3 : Int32)), .val (.int (2 : Int32)), .val (.int x2)] [(.int (1 : Int32)), (.int (2 : Int32))]))
      refine own_go (fun t k => XS.iadd X0.here hx rfl (hb hby d6_39) rfl k) ?_
      show own_Run p e below Φ (s₁.setTop (mkF m 40 #[.val (.ref a1), .val (.int (0 : Int32)), .val (.int (4 : Int32)), .val (.int p4), .val (.int (2 : Int32)), .val (.int (3 : Int32)), .val (.int (2 : Int32)), .val (.int x2)] [(.int ((2 : Int32) + (1 : Int32)))]))
      rw [show ((2 : Int32) + (1 : Int32)) = (3 : Int32) from by decide]
      show own_Run p e below Φ (s₁.setTop (mkF m 40 #[.val (.ref a1), .val (.int (0 : Int32)), .val (.int (4 : Int32)), .val (.int p4), .val (.int (2 : Int32)), .val (.int (3 : Int32)), .val (.int (2 : Int32)), .val (.int x2)] [(.int (3 : Int32))]))
      refine own_go (fun t k => XS.istore X0.here hx rfl (hb hby d6_40) rfl (l' := #[.val (.ref a1), .val (.int (0 : Int32)), .val (.int (4 : Int32)), .val (.int p4), .val (.int (3 : Int32)), .val (.int (3 : Int32)), .val (.int (2 : Int32)), .val (.int x2)]) rfl k) ?_
      refine own_go (fun t k => XS.goto X0.here hx rfl (pc0 := 42) (pc' := 63) rfl (hb hby d6_42) (by decide) (by decide) k) ?_
      refine own_go (fun t k => XS.goto X0.here hx rfl (pc0 := 63) (pc' := 8) rfl (hb hby d6_63) (by decide) (by decide) k) ?_
      refine own_go (fun t k => XS.iload X0.here hx rfl (hb hby d6_8) rfl  k) ?_
      refine own_go (fun t k => XS.iload X0.here hx rfl (hb hby d6_10) rfl  k) ?_
      show own_Run p e below Φ (s₁.setTop (mkF m 12 #[.val (.ref a1), .val (.int (0 : Int32)), .val (.int (4 : Int32)), .val (.int p4), .val (.int (3 : Int32)), .val (.int (3 : Int32)), .val (.int (2 : Int32)), .val (.int x2)] [(.int (3 : Int32)), (.int (3 : Int32))]))
      refine own_go (fun t k => XS.icmpNo X0.here hx rfl (hb hby d6_12) rfl (flt (by decide : ¬ ((3 : Int32) < (3 : Int32)))).2.2.1 k) ?_
      refine own_go (fun t k => XS.iload X0.here hx rfl (hb hby d6_15) rfl  k) ?_
      refine own_go (fun t k => XS.iload X0.here hx rfl (hb hby d6_17) rfl  k) ?_
      refine own_go (fun t k => XS.iadd X0.here hx rfl (hb hby d6_19) rfl k) ?_
      show own_Run p e below Φ (s₁.setTop (mkF m 20 #[.val (.ref a1), .val (.int (0 : Int32)), .val (.int (4 : Int32)), .val (.int p4), .val (.int (3 : Int32)), .val (.int (3 : Int32)), .val (.int (2 : Int32)), .val (.int x2)] [(.int ((3 : Int32) + (3 : Int32)))]))
      rw [show ((3 : Int32) + (3 : Int32)) = (6 : Int32) from by decide]
      show own_Run p e below Φ (s₁.setTop (mkF m 20 #[.val (.ref a1), .val (.int (0 : Int32)), .val (.int (4 : Int32)), .val (.int p4), .val (.int (3 : Int32)), .val (.int (3 : Int32)), .val (.int (2 : Int32)), .val (.int x2)] [(.int (6 : Int32))]))
      refine own_go (fun t k => XS.iconst X0.here hx rfl (hb hby d6_20) k) ?_
      refine own_go (fun t k => XS.iushr X0.here hx rfl (hb hby d6_21) rfl k) ?_
      show own_Run p e below Φ (s₁.setTop (mkF m 22 #[.val (.ref a1), .val (.int (0 : Int32)), .val (.int (4 : Int32)), .val (.int p4), .val (.int (3 : Int32)), .val (.int (3 : Int32)), .val (.int (2 : Int32)), .val (.int x2)] [(.int (((6 : Int32).toUInt32 >>> ((1 : Int32) &&& 31).toUInt32).toInt32))]))
      rw [show (((6 : Int32).toUInt32 >>> ((1 : Int32) &&& 31).toUInt32).toInt32) = (3 : Int32) from by decide]
      show own_Run p e below Φ (s₁.setTop (mkF m 22 #[.val (.ref a1), .val (.int (0 : Int32)), .val (.int (4 : Int32)), .val (.int p4), .val (.int (3 : Int32)), .val (.int (3 : Int32)), .val (.int (2 : Int32)), .val (.int x2)] [(.int (3 : Int32))]))
      refine own_go (fun t k => XS.istore X0.here hx rfl (hb hby d6_22) rfl (l' := #[.val (.ref a1), .val (.int (0 : Int32)), .val (.int (4 : Int32)), .val (.int p4), .val (.int (3 : Int32)), .val (.int (3 : Int32)), .val (.int (3 : Int32)), .val (.int x2)]) rfl k) ?_
      refine own_go (fun t k => XS.aloadN X0.here hx rfl (hb hby d6_24) rfl rfl  k) ?_
      refine own_go (fun t k => XS.iload X0.here hx rfl (hb hby d6_25) rfl  k) ?_
      refine own_iaload X0 hx hZ e0 H1 (j := (3 : Int32)) (v := (.int x3)) ⟨by decide, by decide⟩ rfl (g := (mkF m 27 #[.val (.ref a1), .val (.int (0 : Int32)), .val (.int (4 : Int32)), .val (.int p4), .val (.int (3 : Int32)), .val (.int (3 : Int32)), .val (.int (3 : Int32)), .val (.int x2)] [(.int (3 : Int32)), (.ref a1)])) rfl rfl (hb hby d6_27) ?_
      refine own_go (fun t k => XS.istore X0.here hx rfl (hb hby d6_28) rfl (l' := #[.val (.ref a1), .val (.int (0 : Int32)), .val (.int (4 : Int32)), .val (.int p4), .val (.int (3 : Int32)), .val (.int (3 : Int32)), .val (.int (3 : Int32)), .val (.int x3)]) rfl k) ?_
      show own_Run p e below Φ (s₁.setTop (mkF m 30 #[.val (.ref a1), .val (.int (0 : Int32)), .val (.int (4 : Int32)), .val (.int p4), .val (.int (3 : Int32)), .val (.int (3 : Int32)), .val (.int (3 : Int32)), .val (.int x3)] []))
      refine own_go (fun t k => XS.iload X0.here hx rfl (hb hby d6_30) rfl  k) ?_
      refine own_go (fun t k => XS.iloadN X0.here hx rfl (hb hby d6_32) rfl  k) ?_
      by_cases hc33_3 : x3 < p4
      · refine own_go (fun t k => XS.icmpNo X0.here hx rfl (hb hby d6_33) rfl (tlt hc33_3).2.1 k) ?_
        refine own_go (fun t k => XS.iload X0.here hx rfl (hb hby d6_36) rfl  k) ?_
        refine own_go (fun t k => XS.iconst X0.here hx rfl (hb hby d6_38) k) ?_
        show own_Run p e below Φ (s₁.setTop (mkF m 39 #[.val (.ref a1), .val (.int (0 : Int32)), .val (.int (4 : Int32)), .val (.int p4), .val (.int (3 : Int32)), .val (.int (3 : Int32)), .val (.int (3 : Int32)), .val (.int x3)] [(.int (1 : Int32)), (.int (3 : Int32))]))
        refine own_go (fun t k => XS.iadd X0.here hx rfl (hb hby d6_39) rfl k) ?_
        show own_Run p e below Φ (s₁.setTop (mkF m 40 #[.val (.ref a1), .val (.int (0 : Int32)), .val (.int (4 : Int32)), .val (.int p4), .val (.int (3 : Int32)), .val (.int (3 : Int32)), .val (.int (3 : Int32)), .val (.int x3)] [(.int ((3 : Int32) + (1 : Int32)))]))
        rw [show ((3 : Int32) + (1 : Int32)) = (4 : Int32) from by decide]
        show own_Run p e below Φ (s₁.setTop (mkF m 40 #[.val (.ref a1), .val (.int (0 : Int32)), .val (.int (4 : Int32)), .val (.int p4), .val (.int (3 : Int32)), .val (.int (3 : Int32)), .val (.int (3 : Int32)), .val (.int x3)] [(.int (4 : Int32))]))
        refine own_go (fun t k => XS.istore X0.here hx rfl (hb hby d6_40) rfl (l' := #[.val (.ref a1), .val (.int (0 : Int32)), .val (.int (4 : Int32)), .val (.int p4), .val (.int (4 : Int32)), .val (.int (3 : Int32)), .val (.int (3 : Int32)), .val (.int x3)]) rfl k) ?_
        refine own_go (fun t k => XS.goto X0.here hx rfl (pc0 := 42) (pc' := 63) rfl (hb hby d6_42) (by decide) (by decide) k) ?_
        refine own_go (fun t k => XS.goto X0.here hx rfl (pc0 := 63) (pc' := 8) rfl (hb hby d6_63) (by decide) (by decide) k) ?_
        refine own_go (fun t k => XS.iload X0.here hx rfl (hb hby d6_8) rfl  k) ?_
        refine own_go (fun t k => XS.iload X0.here hx rfl (hb hby d6_10) rfl  k) ?_
        show own_Run p e below Φ (s₁.setTop (mkF m 12 #[.val (.ref a1), .val (.int (0 : Int32)), .val (.int (4 : Int32)), .val (.int p4), .val (.int (4 : Int32)), .val (.int (3 : Int32)), .val (.int (3 : Int32)), .val (.int x3)] [(.int (3 : Int32)), (.int (4 : Int32))]))
        refine own_go (fun t k => XS.icmpYes X0.here hx rfl (pc0 := 12) (pc' := 66) rfl (hb hby d6_12) rfl (tlt (by decide : (3 : Int32) < (4 : Int32))).2.2.1 (by decide) (by decide) k) ?_
        refine own_go (fun t k => XS.iload X0.here hx rfl (hb hby d6_66) rfl  k) ?_
        refine own_go (fun t k => XS.iconst X0.here hx rfl (hb hby d6_68) k) ?_
        refine own_go (fun t k => XS.iadd X0.here hx rfl (hb hby d6_69) rfl k) ?_
        show own_Run p e below Φ (s₁.setTop (mkF m 70 #[.val (.ref a1), .val (.int (0 : Int32)), .val (.int (4 : Int32)), .val (.int p4), .val (.int (4 : Int32)), .val (.int (3 : Int32)), .val (.int (3 : Int32)), .val (.int x3)] [(.int ((4 : Int32) + (1 : Int32)))]))
        rw [show ((4 : Int32) + (1 : Int32)) = (5 : Int32) from by decide]
        show own_Run p e below Φ (s₁.setTop (mkF m 70 #[.val (.ref a1), .val (.int (0 : Int32)), .val (.int (4 : Int32)), .val (.int p4), .val (.int (4 : Int32)), .val (.int (3 : Int32)), .val (.int (3 : Int32)), .val (.int x3)] [(.int (5 : Int32))]))
        refine own_go (fun t k => XS.ineg X0.here hx rfl (hb hby d6_70) rfl k) ?_
        show own_Run p e below Φ (s₁.setTop (mkF m 71 #[.val (.ref a1), .val (.int (0 : Int32)), .val (.int (4 : Int32)), .val (.int p4), .val (.int (4 : Int32)), .val (.int (3 : Int32)), .val (.int (3 : Int32)), .val (.int x3)] [(.int (-(5 : Int32)))]))
        rw [show (-(5 : Int32)) = (-5 : Int32) from by decide]
        show own_Run p e below Φ (s₁.setTop (mkF m 71 #[.val (.ref a1), .val (.int (0 : Int32)), .val (.int (4 : Int32)), .val (.int p4), .val (.int (4 : Int32)), .val (.int (3 : Int32)), .val (.int (3 : Int32)), .val (.int x3)] [(.int (-5 : Int32))]))
        subst hΦ
        exact own_retI X0 hx Bd.returns hlk (hb hby d6_71) e0 ⟨(by simp only [own_bs4, if_true, if_false, hc33, hc33_2, hc33_3]), N0, rfl⟩ (by decide) (by decide)
      · refine own_go (fun t k => XS.icmpYes X0.here hx rfl (pc0 := 33) (pc' := 45) rfl (hb hby d6_33) rfl (flt hc33_3).2.1 (by decide) (by decide) k) ?_
        refine own_go (fun t k => XS.iload X0.here hx rfl (hb hby d6_45) rfl  k) ?_
        refine own_go (fun t k => XS.iloadN X0.here hx rfl (hb hby d6_47) rfl  k) ?_
        by_cases hc48 : p4 < x3
        · refine own_go (fun t k => XS.icmpNo X0.here hx rfl (hb hby d6_48) rfl (tlt hc48).2.2.2 k) ?_
          refine own_go (fun t k => XS.iload X0.here hx rfl (hb hby d6_51) rfl  k) ?_
          show own_Run p e below Φ (s₁.setTop (mkF m 53 #[.val (.ref a1), .val (.int (0 : Int32)), .val (.int (4 : Int32)), .val (.int p4), .val (.int (3 : Int32)), .val (.int (3 : Int32)), .val (.int (3 : Int32)), .val (.int x3)] [(.int (3 : Int32))]))
          refine own_go (fun t k => XS.iconst X0.here hx rfl (hb hby d6_53) k) ?_
          refine own_go (fun t k => XS.isub X0.here hx rfl (hb hby d6_54) rfl k) ?_
          show own_Run p e below Φ (s₁.setTop (mkF m 55 #[.val (.ref a1), .val (.int (0 : Int32)), .val (.int (4 : Int32)), .val (.int p4), .val (.int (3 : Int32)), .val (.int (3 : Int32)), .val (.int (3 : Int32)), .val (.int x3)] [(.int ((3 : Int32) - (1 : Int32)))]))
          rw [show ((3 : Int32) - (1 : Int32)) = (2 : Int32) from by decide]
          show own_Run p e below Φ (s₁.setTop (mkF m 55 #[.val (.ref a1), .val (.int (0 : Int32)), .val (.int (4 : Int32)), .val (.int p4), .val (.int (3 : Int32)), .val (.int (3 : Int32)), .val (.int (3 : Int32)), .val (.int x3)] [(.int (2 : Int32))]))
          refine own_go (fun t k => XS.istore X0.here hx rfl (hb hby d6_55) rfl (l' := #[.val (.ref a1), .val (.int (0 : Int32)), .val (.int (4 : Int32)), .val (.int p4), .val (.int (3 : Int32)), .val (.int (2 : Int32)), .val (.int (3 : Int32)), .val (.int x3)]) rfl k) ?_
          refine own_go (fun t k => XS.goto X0.here hx rfl (pc0 := 57) (pc' := 63) rfl (hb hby d6_57) (by decide) (by decide) k) ?_
          refine own_go (fun t k => XS.goto X0.here hx rfl (pc0 := 63) (pc' := 8) rfl (hb hby d6_63) (by decide) (by decide) k) ?_
          refine own_go (fun t k => XS.iload X0.here hx rfl (hb hby d6_8) rfl  k) ?_
          refine own_go (fun t k => XS.iload X0.here hx rfl (hb hby d6_10) rfl  k) ?_
          show own_Run p e below Φ (s₁.setTop (mkF m 12 #[.val (.ref a1), .val (.int (0 : Int32)), .val (.int (4 : Int32)), .val (.int p4), .val (.int (3 : Int32)), .val (.int (2 : Int32)), .val (.int (3 : Int32)), .val (.int x3)] [(.int (2 : Int32)), (.int (3 : Int32))]))
          refine own_go (fun t k => XS.icmpYes X0.here hx rfl (pc0 := 12) (pc' := 66) rfl (hb hby d6_12) rfl (tlt (by decide : (2 : Int32) < (3 : Int32))).2.2.1 (by decide) (by decide) k) ?_
          refine own_go (fun t k => XS.iload X0.here hx rfl (hb hby d6_66) rfl  k) ?_
          refine own_go (fun t k => XS.iconst X0.here hx rfl (hb hby d6_68) k) ?_
          refine own_go (fun t k => XS.iadd X0.here hx rfl (hb hby d6_69) rfl k) ?_
          show own_Run p e below Φ (s₁.setTop (mkF m 70 #[.val (.ref a1), .val (.int (0 : Int32)), .val (.int (4 : Int32)), .val (.int p4), .val (.int (3 : Int32)), .val (.int (2 : Int32)), .val (.int (3 : Int32)), .val (.int x3)] [(.int ((3 : Int32) + (1 : Int32)))]))
          rw [show ((3 : Int32) + (1 : Int32)) = (4 : Int32) from by decide]
          show own_Run p e below Φ (s₁.setTop (mkF m 70 #[.val (.ref a1), .val (.int (0 : Int32)), .val (.int (4 : Int32)), .val (.int p4), .val (.int (3 : Int32)), .val (.int (2 : Int32)), .val (.int (3 : Int32)), .val (.int x3)] [(.int (4 : Int32))]))
          refine own_go (fun t k => XS.ineg X0.here hx rfl (hb hby d6_70) rfl k) ?_
          show own_Run p e below Φ (s₁.setTop (mkF m 71 #[.val (.ref a1), .val (.int (0 : Int32)), .val (.int (4 : Int32)), .val (.int p4), .val (.int (3 : Int32)), .val (.int (2 : Int32)), .val (.int (3 : Int32)), .val (.int x3)] [(.int (-(4 : Int32)))]))
          rw [show (-(4 : Int32)) = (-4 : Int32) from by decide]
          show own_Run p e below Φ (s₁.setTop (mkF m 71 #[.val (.ref a1), .val (.int (0 : Int32)), .val (.int (4 : Int32)), .val (.int p4), .val (.int (3 : Int32)), .val (.int (2 : Int32)), .val (.int (3 : Int32)), .val (.int x3)] [(.int (-4 : Int32))]))
          subst hΦ
          exact own_retI X0 hx Bd.returns hlk (hb hby d6_71) e0 ⟨(by simp only [own_bs4, if_true, if_false, hc33, hc33_2, hc33_3, hc48]), N0, rfl⟩ (by decide) (by decide)
        · refine own_go (fun t k => XS.icmpYes X0.here hx rfl (pc0 := 48) (pc' := 60) rfl (hb hby d6_48) rfl (flt hc48).2.2.2 (by decide) (by decide) k) ?_
          refine own_go (fun t k => XS.iload X0.here hx rfl (hb hby d6_60) rfl  k) ?_
          subst hΦ
          exact own_retI X0 hx Bd.returns hlk (hb hby d6_62) e0 ⟨(by simp only [own_bs4, if_true, if_false, hc33, hc33_2, hc33_3, hc48]), N0, rfl⟩ (by decide) (by decide)
    · refine own_go (fun t k => XS.icmpYes X0.here hx rfl (pc0 := 33) (pc' := 45) rfl (hb hby d6_33) rfl (flt hc33_2).2.1 (by decide) (by decide) k) ?_
      refine own_go (fun t k => XS.iload X0.here hx rfl (hb hby d6_45) rfl  k) ?_
      refine own_go (fun t k => XS.iloadN X0.here hx rfl (hb hby d6_47) rfl  k) ?_
      show own_Run p e below Φ (s₁.setTop (mkF m 48 #[.val (.ref a1), .val (.int (0 : Int32)), .val (.int (4 : Int32)), .val (.int p4), .val (.int (2 : Int32)), .val (.int (3 : Int32)), .val (.int (2 : Int32)), .val (.int x2)] [(.int p4), (.int x2)]))
      by_cases hc48 : p4 < x2
      · refine own_go (fun t k => XS.icmpNo X0.here hx rfl (hb hby d6_48) rfl (tlt hc48).2.2.2 k) ?_
        refine own_go (fun t k => XS.iload X0.here hx rfl (hb hby d6_51) rfl  k) ?_
        refine own_go (fun t k => XS.iconst X0.here hx rfl (hb hby d6_53) k) ?_
        refine own_go (fun t k => XS.isub X0.here hx rfl (hb hby d6_54) rfl k) ?_
        show own_Run p e below Φ (s₁.setTop (mkF m 55 #[.val (.ref a1), .val (.int (0 : Int32)), .val (.int (4 : Int32)), .val (.int p4), .val (.int (2 : Int32)), .val (.int (3 : Int32)), .val (.int (2 : Int32)), .val (.int x2)] [(.int ((2 : Int32) - (1 : Int32)))]))
        rw [show ((2 : Int32) - (1 : Int32)) = (1 : Int32) from by decide]
        show own_Run p e below Φ (s₁.setTop (mkF m 55 #[.val (.ref a1), .val (.int (0 : Int32)), .val (.int (4 : Int32)), .val (.int p4), .val (.int (2 : Int32)), .val (.int (3 : Int32)), .val (.int (2 : Int32)), .val (.int x2)] [(.int (1 : Int32))]))
        refine own_go (fun t k => XS.istore X0.here hx rfl (hb hby d6_55) rfl (l' := #[.val (.ref a1), .val (.int (0 : Int32)), .val (.int (4 : Int32)), .val (.int p4), .val (.int (2 : Int32)), .val (.int (1 : Int32)), .val (.int (2 : Int32)), .val (.int x2)]) rfl k) ?_
        refine own_go (fun t k => XS.goto X0.here hx rfl (pc0 := 57) (pc' := 63) rfl (hb hby d6_57) (by decide) (by decide) k) ?_
        refine own_go (fun t k => XS.goto X0.here hx rfl (pc0 := 63) (pc' := 8) rfl (hb hby d6_63) (by decide) (by decide) k) ?_
        refine own_go (fun t k => XS.iload X0.here hx rfl (hb hby d6_8) rfl  k) ?_
        refine own_go (fun t k => XS.iload X0.here hx rfl (hb hby d6_10) rfl  k) ?_
        show own_Run p e below Φ (s₁.setTop (mkF m 12 #[.val (.ref a1), .val (.int (0 : Int32)), .val (.int (4 : Int32)), .val (.int p4), .val (.int (2 : Int32)), .val (.int (1 : Int32)), .val (.int (2 : Int32)), .val (.int x2)] [(.int (1 : Int32)), (.int (2 : Int32))]))
        refine own_go (fun t k => XS.icmpYes X0.here hx rfl (pc0 := 12) (pc' := 66) rfl (hb hby d6_12) rfl (tlt (by decide : (1 : Int32) < (2 : Int32))).2.2.1 (by decide) (by decide) k) ?_
        refine own_go (fun t k => XS.iload X0.here hx rfl (hb hby d6_66) rfl  k) ?_
        refine own_go (fun t k => XS.iconst X0.here hx rfl (hb hby d6_68) k) ?_
        refine own_go (fun t k => XS.iadd X0.here hx rfl (hb hby d6_69) rfl k) ?_
        show own_Run p e below Φ (s₁.setTop (mkF m 70 #[.val (.ref a1), .val (.int (0 : Int32)), .val (.int (4 : Int32)), .val (.int p4), .val (.int (2 : Int32)), .val (.int (1 : Int32)), .val (.int (2 : Int32)), .val (.int x2)] [(.int ((2 : Int32) + (1 : Int32)))]))
        rw [show ((2 : Int32) + (1 : Int32)) = (3 : Int32) from by decide]
        show own_Run p e below Φ (s₁.setTop (mkF m 70 #[.val (.ref a1), .val (.int (0 : Int32)), .val (.int (4 : Int32)), .val (.int p4), .val (.int (2 : Int32)), .val (.int (1 : Int32)), .val (.int (2 : Int32)), .val (.int x2)] [(.int (3 : Int32))]))
        refine own_go (fun t k => XS.ineg X0.here hx rfl (hb hby d6_70) rfl k) ?_
        show own_Run p e below Φ (s₁.setTop (mkF m 71 #[.val (.ref a1), .val (.int (0 : Int32)), .val (.int (4 : Int32)), .val (.int p4), .val (.int (2 : Int32)), .val (.int (1 : Int32)), .val (.int (2 : Int32)), .val (.int x2)] [(.int (-(3 : Int32)))]))
        rw [show (-(3 : Int32)) = (-3 : Int32) from by decide]
        show own_Run p e below Φ (s₁.setTop (mkF m 71 #[.val (.ref a1), .val (.int (0 : Int32)), .val (.int (4 : Int32)), .val (.int p4), .val (.int (2 : Int32)), .val (.int (1 : Int32)), .val (.int (2 : Int32)), .val (.int x2)] [(.int (-3 : Int32))]))
        subst hΦ
        exact own_retI X0 hx Bd.returns hlk (hb hby d6_71) e0 ⟨(by simp only [own_bs4, if_true, if_false, hc33, hc33_2, hc48]), N0, rfl⟩ (by decide) (by decide)
      · refine own_go (fun t k => XS.icmpYes X0.here hx rfl (pc0 := 48) (pc' := 60) rfl (hb hby d6_48) rfl (flt hc48).2.2.2 (by decide) (by decide) k) ?_
        refine own_go (fun t k => XS.iload X0.here hx rfl (hb hby d6_60) rfl  k) ?_
        subst hΦ
        exact own_retI X0 hx Bd.returns hlk (hb hby d6_62) e0 ⟨(by simp only [own_bs4, if_true, if_false, hc33, hc33_2, hc48]), N0, rfl⟩ (by decide) (by decide)
  · refine own_go (fun t k => XS.icmpYes X0.here hx rfl (pc0 := 33) (pc' := 45) rfl (hb hby d6_33) rfl (flt hc33).2.1 (by decide) (by decide) k) ?_
    refine own_go (fun t k => XS.iload X0.here hx rfl (hb hby d6_45) rfl  k) ?_
    refine own_go (fun t k => XS.iloadN X0.here hx rfl (hb hby d6_47) rfl  k) ?_
    show own_Run p e below Φ (s₁.setTop (mkF m 48 #[.val (.ref a1), .val (.int (0 : Int32)), .val (.int (4 : Int32)), .val (.int p4), .val (.int (0 : Int32)), .val (.int (3 : Int32)), .val (.int (1 : Int32)), .val (.int x1)] [(.int p4), (.int x1)]))
    by_cases hc48 : p4 < x1
    · refine own_go (fun t k => XS.icmpNo X0.here hx rfl (hb hby d6_48) rfl (tlt hc48).2.2.2 k) ?_
      refine own_go (fun t k => XS.iload X0.here hx rfl (hb hby d6_51) rfl  k) ?_
      refine own_go (fun t k => XS.iconst X0.here hx rfl (hb hby d6_53) k) ?_
      refine own_go (fun t k => XS.isub X0.here hx rfl (hb hby d6_54) rfl k) ?_
      show own_Run p e below Φ (s₁.setTop (mkF m 55 #[.val (.ref a1), .val (.int (0 : Int32)), .val (.int (4 : Int32)), .val (.int p4), .val (.int (0 : Int32)), .val (.int (3 : Int32)), .val (.int (1 : Int32)), .val (.int x1)] [(.int ((1 : Int32) - (1 : Int32)))]))
      rw [show ((1 : Int32) - (1 : Int32)) = (0 : Int32) from by decide]
      show own_Run p e below Φ (s₁.setTop (mkF m 55 #[.val (.ref a1), .val (.int (0 : Int32)), .val (.int (4 : Int32)), .val (.int p4), .val (.int (0 : Int32)), .val (.int (3 : Int32)), .val (.int (1 : Int32)), .val (.int x1)] [(.int (0 : Int32))]))
      refine own_go (fun t k => XS.istore X0.here hx rfl (hb hby d6_55) rfl (l' := #[.val (.ref a1), .val (.int (0 : Int32)), .val (.int (4 : Int32)), .val (.int p4), .val (.int (0 : Int32)), .val (.int (0 : Int32)), .val (.int (1 : Int32)), .val (.int x1)]) rfl k) ?_
      refine own_go (fun t k => XS.goto X0.here hx rfl (pc0 := 57) (pc' := 63) rfl (hb hby d6_57) (by decide) (by decide) k) ?_
      refine own_go (fun t k => XS.goto X0.here hx rfl (pc0 := 63) (pc' := 8) rfl (hb hby d6_63) (by decide) (by decide) k) ?_
      refine own_go (fun t k => XS.iload X0.here hx rfl (hb hby d6_8) rfl  k) ?_
      refine own_go (fun t k => XS.iload X0.here hx rfl (hb hby d6_10) rfl  k) ?_
      show own_Run p e below Φ (s₁.setTop (mkF m 12 #[.val (.ref a1), .val (.int (0 : Int32)), .val (.int (4 : Int32)), .val (.int p4), .val (.int (0 : Int32)), .val (.int (0 : Int32)), .val (.int (1 : Int32)), .val (.int x1)] [(.int (0 : Int32)), (.int (0 : Int32))]))
      refine own_go (fun t k => XS.icmpNo X0.here hx rfl (hb hby d6_12) rfl (flt (by decide : ¬ ((0 : Int32) < (0 : Int32)))).2.2.1 k) ?_
      refine own_go (fun t k => XS.iload X0.here hx rfl (hb hby d6_15) rfl  k) ?_
      refine own_go (fun t k => XS.iload X0.here hx rfl (hb hby d6_17) rfl  k) ?_
      refine own_go (fun t k => XS.iadd X0.here hx rfl (hb hby d6_19) rfl k) ?_
      show own_Run p e below Φ (s₁.setTop (mkF m 20 #[.val (.ref a1), .val (.int (0 : Int32)), .val (.int (4 : Int32)), .val (.int p4), .val (.int (0 : Int32)), .val (.int (0 : Int32)), .val (.int (1 : Int32)), .val (.int x1)] [(.int ((0 : Int32) + (0 : Int32)))]))
      rw [show ((0 : Int32) + (0 : Int32)) = (0 : Int32) from by decide]
      show own_Run p e below Φ (s₁.setTop (mkF m 20 #[.val (.ref a1), .val (.int (0 : Int32)), .val (.int (4 : Int32)), .val (.int p4), .val (.int (0 : Int32)), .val (.int (0 : Int32)), .val (.int (1 : Int32)), .val (.int x1)] [(.int (0 : Int32))]))
      refine own_go (fun t k => XS.iconst X0.here hx rfl (hb hby d6_20) k) ?_
      refine own_go (fun t k => XS.iushr X0.here hx rfl (hb hby d6_21) rfl k) ?_
      show own_Run p e below Φ (s₁.setTop (mkF m 22 #[.val (.ref a1), .val (.int (0 : Int32)), .val (.int (4 : Int32)), .val (.int p4), .val (.int (0 : Int32)), .val (.int (0 : Int32)), .val (.int (1 : Int32)), .val (.int x1)] [(.int (((0 : Int32).toUInt32 >>> ((1 : Int32) &&& 31).toUInt32).toInt32))]))
      rw [show (((0 : Int32).toUInt32 >>> ((1 : Int32) &&& 31).toUInt32).toInt32) = (0 : Int32) from by decide]
      show own_Run p e below Φ (s₁.setTop (mkF m 22 #[.val (.ref a1), .val (.int (0 : Int32)), .val (.int (4 : Int32)), .val (.int p4), .val (.int (0 : Int32)), .val (.int (0 : Int32)), .val (.int (1 : Int32)), .val (.int x1)] [(.int (0 : Int32))]))
      refine own_go (fun t k => XS.istore X0.here hx rfl (hb hby d6_22) rfl (l' := #[.val (.ref a1), .val (.int (0 : Int32)), .val (.int (4 : Int32)), .val (.int p4), .val (.int (0 : Int32)), .val (.int (0 : Int32)), .val (.int (0 : Int32)), .val (.int x1)]) rfl k) ?_
      refine own_go (fun t k => XS.aloadN X0.here hx rfl (hb hby d6_24) rfl rfl  k) ?_
      refine own_go (fun t k => XS.iload X0.here hx rfl (hb hby d6_25) rfl  k) ?_
      refine own_iaload X0 hx hZ e0 H1 (j := (0 : Int32)) (v := (.int x0)) ⟨by decide, by decide⟩ rfl (g := (mkF m 27 #[.val (.ref a1), .val (.int (0 : Int32)), .val (.int (4 : Int32)), .val (.int p4), .val (.int (0 : Int32)), .val (.int (0 : Int32)), .val (.int (0 : Int32)), .val (.int x1)] [(.int (0 : Int32)), (.ref a1)])) rfl rfl (hb hby d6_27) ?_
      refine own_go (fun t k => XS.istore X0.here hx rfl (hb hby d6_28) rfl (l' := #[.val (.ref a1), .val (.int (0 : Int32)), .val (.int (4 : Int32)), .val (.int p4), .val (.int (0 : Int32)), .val (.int (0 : Int32)), .val (.int (0 : Int32)), .val (.int x0)]) rfl k) ?_
      show own_Run p e below Φ (s₁.setTop (mkF m 30 #[.val (.ref a1), .val (.int (0 : Int32)), .val (.int (4 : Int32)), .val (.int p4), .val (.int (0 : Int32)), .val (.int (0 : Int32)), .val (.int (0 : Int32)), .val (.int x0)] []))
      refine own_go (fun t k => XS.iload X0.here hx rfl (hb hby d6_30) rfl  k) ?_
      refine own_go (fun t k => XS.iloadN X0.here hx rfl (hb hby d6_32) rfl  k) ?_
      by_cases hc33_2 : x0 < p4
      · refine own_go (fun t k => XS.icmpNo X0.here hx rfl (hb hby d6_33) rfl (tlt hc33_2).2.1 k) ?_
        refine own_go (fun t k => XS.iload X0.here hx rfl (hb hby d6_36) rfl  k) ?_
        refine own_go (fun t k => XS.iconst X0.here hx rfl (hb hby d6_38) k) ?_
        show own_Run p e below Φ (s₁.setTop (mkF m 39 #[.val (.ref a1), .val (.int (0 : Int32)), .val (.int (4 : Int32)), .val (.int p4), .val (.int (0 : Int32)), .val (.int (0 : Int32)), .val (.int (0 : Int32)), .val (.int x0)] [(.int (1 : Int32)), (.int (0 : Int32))]))
        refine own_go (fun t k => XS.iadd X0.here hx rfl (hb hby d6_39) rfl k) ?_
        show own_Run p e below Φ (s₁.setTop (mkF m 40 #[.val (.ref a1), .val (.int (0 : Int32)), .val (.int (4 : Int32)), .val (.int p4), .val (.int (0 : Int32)), .val (.int (0 : Int32)), .val (.int (0 : Int32)), .val (.int x0)] [(.int ((0 : Int32) + (1 : Int32)))]))
        rw [show ((0 : Int32) + (1 : Int32)) = (1 : Int32) from by decide]
        show own_Run p e below Φ (s₁.setTop (mkF m 40 #[.val (.ref a1), .val (.int (0 : Int32)), .val (.int (4 : Int32)), .val (.int p4), .val (.int (0 : Int32)), .val (.int (0 : Int32)), .val (.int (0 : Int32)), .val (.int x0)] [(.int (1 : Int32))]))
        refine own_go (fun t k => XS.istore X0.here hx rfl (hb hby d6_40) rfl (l' := #[.val (.ref a1), .val (.int (0 : Int32)), .val (.int (4 : Int32)), .val (.int p4), .val (.int (1 : Int32)), .val (.int (0 : Int32)), .val (.int (0 : Int32)), .val (.int x0)]) rfl k) ?_
        refine own_go (fun t k => XS.goto X0.here hx rfl (pc0 := 42) (pc' := 63) rfl (hb hby d6_42) (by decide) (by decide) k) ?_
        refine own_go (fun t k => XS.goto X0.here hx rfl (pc0 := 63) (pc' := 8) rfl (hb hby d6_63) (by decide) (by decide) k) ?_
        refine own_go (fun t k => XS.iload X0.here hx rfl (hb hby d6_8) rfl  k) ?_
        refine own_go (fun t k => XS.iload X0.here hx rfl (hb hby d6_10) rfl  k) ?_
        show own_Run p e below Φ (s₁.setTop (mkF m 12 #[.val (.ref a1), .val (.int (0 : Int32)), .val (.int (4 : Int32)), .val (.int p4), .val (.int (1 : Int32)), .val (.int (0 : Int32)), .val (.int (0 : Int32)), .val (.int x0)] [(.int (0 : Int32)), (.int (1 : Int32))]))
        refine own_go (fun t k => XS.icmpYes X0.here hx rfl (pc0 := 12) (pc' := 66) rfl (hb hby d6_12) rfl (tlt (by decide : (0 : Int32) < (1 : Int32))).2.2.1 (by decide) (by decide) k) ?_
        refine own_go (fun t k => XS.iload X0.here hx rfl (hb hby d6_66) rfl  k) ?_
        refine own_go (fun t k => XS.iconst X0.here hx rfl (hb hby d6_68) k) ?_
        refine own_go (fun t k => XS.iadd X0.here hx rfl (hb hby d6_69) rfl k) ?_
        show own_Run p e below Φ (s₁.setTop (mkF m 70 #[.val (.ref a1), .val (.int (0 : Int32)), .val (.int (4 : Int32)), .val (.int p4), .val (.int (1 : Int32)), .val (.int (0 : Int32)), .val (.int (0 : Int32)), .val (.int x0)] [(.int ((1 : Int32) + (1 : Int32)))]))
        rw [show ((1 : Int32) + (1 : Int32)) = (2 : Int32) from by decide]
        show own_Run p e below Φ (s₁.setTop (mkF m 70 #[.val (.ref a1), .val (.int (0 : Int32)), .val (.int (4 : Int32)), .val (.int p4), .val (.int (1 : Int32)), .val (.int (0 : Int32)), .val (.int (0 : Int32)), .val (.int x0)] [(.int (2 : Int32))]))
        refine own_go (fun t k => XS.ineg X0.here hx rfl (hb hby d6_70) rfl k) ?_
        show own_Run p e below Φ (s₁.setTop (mkF m 71 #[.val (.ref a1), .val (.int (0 : Int32)), .val (.int (4 : Int32)), .val (.int p4), .val (.int (1 : Int32)), .val (.int (0 : Int32)), .val (.int (0 : Int32)), .val (.int x0)] [(.int (-(2 : Int32)))]))
        rw [show (-(2 : Int32)) = (-2 : Int32) from by decide]
        show own_Run p e below Φ (s₁.setTop (mkF m 71 #[.val (.ref a1), .val (.int (0 : Int32)), .val (.int (4 : Int32)), .val (.int p4), .val (.int (1 : Int32)), .val (.int (0 : Int32)), .val (.int (0 : Int32)), .val (.int x0)] [(.int (-2 : Int32))]))
        subst hΦ
        exact own_retI X0 hx Bd.returns hlk (hb hby d6_71) e0 ⟨(by simp only [own_bs4, if_true, if_false, hc33, hc33_2, hc48]), N0, rfl⟩ (by decide) (by decide)
      · refine own_go (fun t k => XS.icmpYes X0.here hx rfl (pc0 := 33) (pc' := 45) rfl (hb hby d6_33) rfl (flt hc33_2).2.1 (by decide) (by decide) k) ?_
        refine own_go (fun t k => XS.iload X0.here hx rfl (hb hby d6_45) rfl  k) ?_
        refine own_go (fun t k => XS.iloadN X0.here hx rfl (hb hby d6_47) rfl  k) ?_
        by_cases hc48_2 : p4 < x0
        · refine own_go (fun t k => XS.icmpNo X0.here hx rfl (hb hby d6_48) rfl (tlt hc48_2).2.2.2 k) ?_
          refine own_go (fun t k => XS.iload X0.here hx rfl (hb hby d6_51) rfl  k) ?_
          show own_Run p e below Φ (s₁.setTop (mkF m 53 #[.val (.ref a1), .val (.int (0 : Int32)), .val (.int (4 : Int32)), .val (.int p4), .val (.int (0 : Int32)), .val (.int (0 : Int32)), .val (.int (0 : Int32)), .val (.int x0)] [(.int (0 : Int32))]))
          refine own_go (fun t k => XS.iconst X0.here hx rfl (hb hby d6_53) k) ?_
          refine own_go (fun t k => XS.isub X0.here hx rfl (hb hby d6_54) rfl k) ?_
          show own_Run p e below Φ (s₁.setTop (mkF m 55 #[.val (.ref a1), .val (.int (0 : Int32)), .val (.int (4 : Int32)), .val (.int p4), .val (.int (0 : Int32)), .val (.int (0 : Int32)), .val (.int (0 : Int32)), .val (.int x0)] [(.int ((0 : Int32) - (1 : Int32)))]))
          rw [show ((0 : Int32) - (1 : Int32)) = (-1 : Int32) from by decide]
          show own_Run p e below Φ (s₁.setTop (mkF m 55 #[.val (.ref a1), .val (.int (0 : Int32)), .val (.int (4 : Int32)), .val (.int p4), .val (.int (0 : Int32)), .val (.int (0 : Int32)), .val (.int (0 : Int32)), .val (.int x0)] [(.int (-1 : Int32))]))
          refine own_go (fun t k => XS.istore X0.here hx rfl (hb hby d6_55) rfl (l' := #[.val (.ref a1), .val (.int (0 : Int32)), .val (.int (4 : Int32)), .val (.int p4), .val (.int (0 : Int32)), .val (.int (-1 : Int32)), .val (.int (0 : Int32)), .val (.int x0)]) rfl k) ?_
          refine own_go (fun t k => XS.goto X0.here hx rfl (pc0 := 57) (pc' := 63) rfl (hb hby d6_57) (by decide) (by decide) k) ?_
          refine own_go (fun t k => XS.goto X0.here hx rfl (pc0 := 63) (pc' := 8) rfl (hb hby d6_63) (by decide) (by decide) k) ?_
          refine own_go (fun t k => XS.iload X0.here hx rfl (hb hby d6_8) rfl  k) ?_
          refine own_go (fun t k => XS.iload X0.here hx rfl (hb hby d6_10) rfl  k) ?_
          show own_Run p e below Φ (s₁.setTop (mkF m 12 #[.val (.ref a1), .val (.int (0 : Int32)), .val (.int (4 : Int32)), .val (.int p4), .val (.int (0 : Int32)), .val (.int (-1 : Int32)), .val (.int (0 : Int32)), .val (.int x0)] [(.int (-1 : Int32)), (.int (0 : Int32))]))
          refine own_go (fun t k => XS.icmpYes X0.here hx rfl (pc0 := 12) (pc' := 66) rfl (hb hby d6_12) rfl (tlt (by decide : (-1 : Int32) < (0 : Int32))).2.2.1 (by decide) (by decide) k) ?_
          refine own_go (fun t k => XS.iload X0.here hx rfl (hb hby d6_66) rfl  k) ?_
          refine own_go (fun t k => XS.iconst X0.here hx rfl (hb hby d6_68) k) ?_
          refine own_go (fun t k => XS.iadd X0.here hx rfl (hb hby d6_69) rfl k) ?_
          show own_Run p e below Φ (s₁.setTop (mkF m 70 #[.val (.ref a1), .val (.int (0 : Int32)), .val (.int (4 : Int32)), .val (.int p4), .val (.int (0 : Int32)), .val (.int (-1 : Int32)), .val (.int (0 : Int32)), .val (.int x0)] [(.int ((0 : Int32) + (1 : Int32)))]))
          rw [show ((0 : Int32) + (1 : Int32)) = (1 : Int32) from by decide]
          show own_Run p e below Φ (s₁.setTop (mkF m 70 #[.val (.ref a1), .val (.int (0 : Int32)), .val (.int (4 : Int32)), .val (.int p4), .val (.int (0 : Int32)), .val (.int (-1 : Int32)), .val (.int (0 : Int32)), .val (.int x0)] [(.int (1 : Int32))]))
          refine own_go (fun t k => XS.ineg X0.here hx rfl (hb hby d6_70) rfl k) ?_
          show own_Run p e below Φ (s₁.setTop (mkF m 71 #[.val (.ref a1), .val (.int (0 : Int32)), .val (.int (4 : Int32)), .val (.int p4), .val (.int (0 : Int32)), .val (.int (-1 : Int32)), .val (.int (0 : Int32)), .val (.int x0)] [(.int (-(1 : Int32)))]))
          rw [show (-(1 : Int32)) = (-1 : Int32) from by decide]
          show own_Run p e below Φ (s₁.setTop (mkF m 71 #[.val (.ref a1), .val (.int (0 : Int32)), .val (.int (4 : Int32)), .val (.int p4), .val (.int (0 : Int32)), .val (.int (-1 : Int32)), .val (.int (0 : Int32)), .val (.int x0)] [(.int (-1 : Int32))]))
          subst hΦ
          exact own_retI X0 hx Bd.returns hlk (hb hby d6_71) e0 ⟨(by simp only [own_bs4, if_true, if_false, hc33, hc33_2, hc48, hc48_2]), N0, rfl⟩ (by decide) (by decide)
        · refine own_go (fun t k => XS.icmpYes X0.here hx rfl (pc0 := 48) (pc' := 60) rfl (hb hby d6_48) rfl (flt hc48_2).2.2.2 (by decide) (by decide) k) ?_
          refine own_go (fun t k => XS.iload X0.here hx rfl (hb hby d6_60) rfl  k) ?_
          subst hΦ
          exact own_retI X0 hx Bd.returns hlk (hb hby d6_62) e0 ⟨(by simp only [own_bs4, if_true, if_false, hc33, hc33_2, hc48, hc48_2]), N0, rfl⟩ (by decide) (by decide)
    · refine own_go (fun t k => XS.icmpYes X0.here hx rfl (pc0 := 48) (pc' := 60) rfl (hb hby d6_48) rfl (flt hc48).2.2.2 (by decide) (by decide) k) ?_
      refine own_go (fun t k => XS.iload X0.here hx rfl (hb hby d6_60) rfl  k) ?_
      subst hΦ
      exact own_retI X0 hx Bd.returns hlk (hb hby d6_62) e0 ⟨(by simp only [own_bs4, if_true, if_false, hc33, hc48]), N0, rfl⟩ (by decide) (by decide)
set_option maxRecDepth 65536 in
set_option maxHeartbeats 40000000 in
theorem rm_bs4 (l : Launch) (Z : State) (a0 : Array Value) (hw : ∀ d ∈ tables_1, d.before a0 Z = true) (a1 : Addr) (p4 : Int32) (k1 : ClassId) (x0 : Int32) (x1 : Int32) (x2 : Int32) (x3 : Int32) (x4 : Int32) (h0 : Heap) (n0 : Nat) (H1 : Arv Z h0 a1 k1 .int (5 : Int32) [(.int x0), (.int x1), (.int x2), (.int x3), (.int x4)] (.int (0 : Int32))) :
    own_Met l Z (⟨"java/util/Arrays", "binarySearch", "([IIII)I"⟩ : MethodName) jdk_65_method_58_code 4 (some .int) ({ frames := 1, cells := 0, slots := 0, locals := 19 } : Room) #[(.ref a1), (.int (0 : Int32)), (.int (4 : Int32)), (.int p4)] h0 (fun v h L => v = some (.int (own_bs4 x0 x1 x2 x3 p4)) ∧ Fr n0 L ∧ h = h0) := by
  intro ws
  refine MetFree.of_bodySF (plainFor_of_name pn_c3) hisR ?_
  intro p e s m args below meth c s₁ Bd hml0 hP hK
  obtain ⟨rfl, hZ, hh⟩ := hP
  have hx := Bd.exec
  have hby := Bd.bytes
  have hml : c.maxLocals = 4 := hml0
  have hown : s.vm.findClass "java/util/Arrays" = some m.cls := findClass_of_methodNamed Bd.named
  have hnm := (name_of_methodNamed Bd.named Bd.method).1
  have hlk : meth.locks = false := Bd.notSynchronized
  have X0 : Stand p l e ({ frames := 1, cells := 0, slots := 0, locals := 19 } : Room) s m #[(.ref a1), (.int (0 : Int32)), (.int (4 : Int32)), (.int p4)] below meth c s₁ [] 0 0 := Stand.of_body Bd
  have e0 : s₁.heap = h0 := by rw [← hh, Bd.state]; rfl
  have N0 := Fr.nil n0
  refine own_body (Q := fun v h L => v = some (.int (own_bs4 x0 x1 x2 x3 p4)) ∧ Fr n0 L ∧ h = h0) ?_
  generalize hΦ : own_Fin s below _ _ _ = Φ
  refine own_cast (ef_4_RIII m a1 (0 : Int32) (4 : Int32) p4) ?_
  show own_Run p e below Φ (s₁.setTop (mkF m 0 #[.val (.ref a1), .val (.int (0 : Int32)), .val (.int (4 : Int32)), .val (.int p4)] []))
  refine own_go (fun t k => XS.aloadN X0.here hx rfl (hb hby d4_0) rfl rfl  k) ?_
  refine own_arrlen X0 hx hZ e0 H1 (g := (mkF m 1 #[.val (.ref a1), .val (.int (0 : Int32)), .val (.int (4 : Int32)), .val (.int p4)] [(.ref a1)])) rfl rfl (hb hby d4_1) ?_
  refine own_go (fun t k => XS.iloadN X0.here hx rfl (hb hby d4_2) rfl  k) ?_
  refine own_go (fun t k => XS.iloadN X0.here hx rfl (hb hby d4_3) rfl  k) ?_
  refine own_callS X0 hx hZ (y := (⟨"java/util/Arrays", "rangeCheck", "(III)V"⟩ : MethodName)) (W := 0) (argsL := [(.int (5 : Int32)), (.int (0 : Int32)), (.int (4 : Int32))]) (rest := []) hown (hw _ (List.mem_of_getElem? (i := 26) rfl)) (hw _ (List.mem_of_getElem? (i := 27) rfl)) (hw _ (List.mem_of_getElem? (i := 24) rfl)) (hw _ (List.mem_of_getElem? (i := 28) rfl)) (by decide) (own_bk (rm_rc4 l Z a0 hw  h0 n0 ) hZ (hw _ (List.mem_of_getElem? (i := 28) rfl)) (hw _ (List.mem_of_getElem? (i := 24) rfl)) (by decide) (by decide)) e0 (g := (mkF m 4 #[.val (.ref a1), .val (.int (0 : Int32)), .val (.int (4 : Int32)), .val (.int p4)] [(.int (4 : Int32)), (.int (0 : Int32)), (.int (5 : Int32))])) rfl (by rw [hml]; rfl) (lenOf pd_4 rfl) rfl (by show 2 * 0 + _ ≤ _; exact Nat.le_of_eq rfl) (hb hby d4_4) (by decide) (by decide) (fun v1 T1 h1 L1 X1 e1 q1 => ?_)
  obtain ⟨rfl, M1, s1⟩ := q1
  replace e1 : T1.heap = h0 := e1.trans s1
  have N1 := Fr.app N0 M1
  show own_Run p e below Φ (T1.setTop (mkF m 7 #[.val (.ref a1), .val (.int (0 : Int32)), .val (.int (4 : Int32)), .val (.int p4)] []))
  refine own_go (fun t k => XS.aloadN X1.here hx rfl (hb hby d4_7) rfl rfl  k) ?_
  refine own_go (fun t k => XS.iloadN X1.here hx rfl (hb hby d4_8) rfl  k) ?_
  refine own_go (fun t k => XS.iloadN X1.here hx rfl (hb hby d4_9) rfl  k) ?_
  refine own_go (fun t k => XS.iloadN X1.here hx rfl (hb hby d4_10) rfl  k) ?_
  refine own_callS X1 hx hZ (y := (⟨"java/util/Arrays", "binarySearch0", "([IIII)I"⟩ : MethodName)) (W := 0) (argsL := [(.ref a1), (.int (0 : Int32)), (.int (4 : Int32)), (.int p4)]) (rest := []) hown (hw _ (List.mem_of_getElem? (i := 29) rfl)) (hw _ (List.mem_of_getElem? (i := 30) rfl)) (hw _ (List.mem_of_getElem? (i := 24) rfl)) (hw _ (List.mem_of_getElem? (i := 31) rfl)) (by decide) (own_bk (rm_bz4 l Z a0 hw a1 p4 k1 x0 x1 x2 x3 x4 h0 n0 H1) hZ (hw _ (List.mem_of_getElem? (i := 31) rfl)) (hw _ (List.mem_of_getElem? (i := 24) rfl)) (by decide) (by decide)) e1 (g := (mkF m 11 #[.val (.ref a1), .val (.int (0 : Int32)), .val (.int (4 : Int32)), .val (.int p4)] [(.int p4), (.int (4 : Int32)), (.int (0 : Int32)), (.ref a1)])) rfl (by rw [hml]; rfl) (lenOf pd_3 rfl) rfl (by show 2 * 0 + _ ≤ _; exact Nat.le_of_eq rfl) (hb hby d4_11) (by decide) (by decide) (fun v2 T2 h2 L2 X2 e2 q2 => ?_)
  obtain ⟨rfl, M2, s2⟩ := q2
  replace e2 : T2.heap = h0 := e2.trans s2
  have N2 := Fr.app N1 M2
  show own_Run p e below Φ (T2.setTop (mkF m 14 #[.val (.ref a1), .val (.int (0 : Int32)), .val (.int (4 : Int32)), .val (.int p4)] [(.int (own_bs4 x0 x1 x2 x3 p4))]))
  subst hΦ
  exact own_retI X2 hx Bd.returns hlk (hb hby d4_14) e2 ⟨rfl, N2, rfl⟩ (by decide) (by decide)
set_option maxRecDepth 65536 in
set_option maxHeartbeats 40000000 in
theorem rm_cn4 (l : Launch) (Z : State) (a0 : Array Value) (hw : ∀ d ∈ tables_1, d.before a0 Z = true) (a1 : Addr) (p2 : Int32) (a3 : Addr) (k3 : ClassId) (x0 : Int32) (x1 : Int32) (x2 : Int32) (x3 : Int32) (x4 : Int32) (h0 : Heap) (n0 : Nat) (H1 : Fld Z h0 a1 "com/example/glossyn/glossyn/index/Postings" "documents" "[I" (.ref a3)) (H2 : Fld Z h0 a1 "com/example/glossyn/glossyn/index/Postings" "size" "I" (.int (4 : Int32))) (H3 : Arv Z h0 a3 k3 .int (5 : Int32) [(.int x0), (.int x1), (.int x2), (.int x3), (.int x4)] (.int (0 : Int32))) (hs0 : x0.toInt < x1.toInt) (hs1 : x1.toInt < x2.toInt) (hs2 : x2.toInt < x3.toInt) :
    own_Met l Z (⟨"com/example/glossyn/glossyn/index/Postings", "contains", "(I)Z"⟩ : MethodName) prog_22_method_5_code 2 (some .boolean) ({ frames := 2, cells := 0, slots := 0, locals := 34 } : Room) #[(.ref a1), (.int p2)] h0 (fun v h L => v = some (.int (own_y4 x0 x1 x2 x3 p2)) ∧ Fr n0 L ∧ h = h0) := by
  intro ws
  refine MetFree.of_bodySF (plainFor_of_name pn_c1) hisR ?_
  intro p e s m args below meth c s₁ Bd hml0 hP hK
  obtain ⟨rfl, hZ, hh⟩ := hP
  have hx := Bd.exec
  have hby := Bd.bytes
  have hml : c.maxLocals = 2 := hml0
  have hown : s.vm.findClass "com/example/glossyn/glossyn/index/Postings" = some m.cls := findClass_of_methodNamed Bd.named
  have hnm := (name_of_methodNamed Bd.named Bd.method).1
  have hlk : meth.locks = false := Bd.notSynchronized
  have X0 : Stand p l e ({ frames := 2, cells := 0, slots := 0, locals := 34 } : Room) s m #[(.ref a1), (.int p2)] below meth c s₁ [] 0 0 := Stand.of_body Bd
  have e0 : s₁.heap = h0 := by rw [← hh, Bd.state]; rfl
  have N0 := Fr.nil n0
  refine own_body (Q := fun v h L => v = some (.int (own_y4 x0 x1 x2 x3 p2)) ∧ Fr n0 L ∧ h = h0) ?_
  generalize hΦ : own_Fin s below _ _ _ = Φ
  refine own_cast (ef_3_RI m a1 p2) ?_
  show own_Run p e below Φ (s₁.setTop (mkF m 0 #[.val (.ref a1), .val (.int p2)] []))
  refine own_go (fun t k => XS.aloadN X0.here hx rfl (hb hby d3_0) rfl rfl  k) ?_
  obtain ⟨T1, X1, e1, st1⟩ := getF X0 hx hZ hown (host := "") (Or.inl (hw _ (List.mem_of_getElem? (i := 11) rfl))) Via.refl e0 H1 (g := (mkF m 1 #[.val (.ref a1), .val (.int p2)] [(.ref a1)])) rfl rfl (hb hby d3_1)
  refine own_go st1 ?_
  refine own_go (fun t k => XS.iconst X1.here hx rfl (hb hby d3_4) k) ?_
  refine own_go (fun t k => XS.aloadN X1.here hx rfl (hb hby d3_5) rfl rfl  k) ?_
  obtain ⟨T2, X2, e2, st2⟩ := getF X1 hx hZ hown (host := "") (Or.inl (hw _ (List.mem_of_getElem? (i := 15) rfl))) Via.refl e1 H2 (g := (mkF m 6 #[.val (.ref a1), .val (.int p2)] [(.ref a1), (.int (0 : Int32)), (.ref a3)])) rfl rfl (hb hby d3_6)
  refine own_go st2 ?_
  show own_Run p e below Φ (T2.setTop (mkF m 9 #[.val (.ref a1), .val (.int p2)] [(.int (4 : Int32)), (.int (0 : Int32)), (.ref a3)]))
  refine own_go (fun t k => XS.iloadN X2.here hx rfl (hb hby d3_9) rfl  k) ?_
  refine own_callS X2 hx hZ (y := (⟨"java/util/Arrays", "binarySearch", "([IIII)I"⟩ : MethodName)) (W := 0) (argsL := [(.ref a3), (.int (0 : Int32)), (.int (4 : Int32)), (.int p2)]) (rest := []) hown (hw _ (List.mem_of_getElem? (i := 22) rfl)) (hw _ (List.mem_of_getElem? (i := 23) rfl)) (hw _ (List.mem_of_getElem? (i := 24) rfl)) (hw _ (List.mem_of_getElem? (i := 25) rfl)) (by decide) (own_bk (rm_bs4 l Z a0 hw a3 p2 k3 x0 x1 x2 x3 x4 h0 n0 H3) hZ (hw _ (List.mem_of_getElem? (i := 25) rfl)) (hw _ (List.mem_of_getElem? (i := 24) rfl)) (by decide) (by decide)) e2 (g := (mkF m 10 #[.val (.ref a1), .val (.int p2)] [(.int p2), (.int (4 : Int32)), (.int (0 : Int32)), (.ref a3)])) rfl (by rw [hml]; rfl) (lenOf pd_3 rfl) rfl (by show 2 * 0 + _ ≤ _; exact Nat.le_of_eq rfl) (hb hby d3_10) (by decide) (by decide) (fun v3 T3 h3 L3 X3 e3 q3 => ?_)
  obtain ⟨rfl, M3, s3⟩ := q3
  replace e3 : T3.heap = h0 := e3.trans s3
  have N3 := Fr.app N0 M3
  by_cases hc13 : (own_bs4 x0 x1 x2 x3 p2) < (0 : Int32)
  · refine own_go (fun t k => XS.ifYes X3.here hx rfl (pc0 := 13) (pc' := 20) rfl (hb hby d3_13) rfl ((if0 _ _).trans (tlt hc13).1) (by decide) (by decide) k) ?_
    refine own_go (fun t k => XS.iconst X3.here hx rfl (hb hby d3_20) k) ?_
    subst hΦ
    exact own_retN X3 hx (t := .boolean) Bd.returns (by simp) hlk (hb hby d3_21) e3 ⟨(by rw [own_bl4 hs0 hs1 hs2, if_pos hc13]; rfl), N3, rfl⟩ (by decide) (by decide)
  · refine own_go (fun t k => XS.ifNo X3.here hx rfl (hb hby d3_13) rfl ((if0 _ _).trans (flt hc13).1) k) ?_
    show own_Run p e below Φ (T3.setTop (mkF m 16 #[.val (.ref a1), .val (.int p2)] []))
    refine own_go (fun t k => XS.iconst X3.here hx rfl (hb hby d3_16) k) ?_
    refine own_go (fun t k => XS.goto X3.here hx rfl (pc0 := 17) (pc' := 21) rfl (hb hby d3_17) (by decide) (by decide) k) ?_
    subst hΦ
    exact own_retN X3 hx (t := .boolean) Bd.returns (by simp) hlk (hb hby d3_21) e3 ⟨(by rw [own_bl4 hs0 hs1 hs2, if_neg hc13]; rfl), N3, rfl⟩ (by decide) (by decide)
theorem d1_0 : decode prog_22_method_1_code 0 = .ok (.aload_n 0, 1) := by decide +kernel
theorem d1_1 : decode prog_22_method_1_code 1 = .ok (.invokespecial 1, 3) := by decide +kernel
theorem d1_4 : decode prog_22_method_1_code 4 = .ok (.aload_n 0, 1) := by decide +kernel
theorem d1_5 : decode prog_22_method_1_code 5 = .ok (.aload_n 1, 1) := by decide +kernel
theorem d1_6 : decode prog_22_method_1_code 6 = .ok (.putfield 7, 3) := by decide +kernel
theorem d1_9 : decode prog_22_method_1_code 9 = .ok (.aload_n 0, 1) := by decide +kernel
theorem d1_10 : decode prog_22_method_1_code 10 = .ok (.aload_n 2, 1) := by decide +kernel
theorem d1_11 : decode prog_22_method_1_code 11 = .ok (.putfield 13, 3) := by decide +kernel
theorem d1_14 : decode prog_22_method_1_code 14 = .ok (.aload_n 0, 1) := by decide +kernel
theorem d1_15 : decode prog_22_method_1_code 15 = .ok (.iload_n 3, 1) := by decide +kernel
theorem d1_16 : decode prog_22_method_1_code 16 = .ok (.putfield 16, 3) := by decide +kernel
theorem d1_19 : decode prog_22_method_1_code 19 = .ok (.return_, 1) := by decide +kernel
theorem ef_1_RRRI (m : MethodId) (x0 : Addr) (x1 : Addr) (x2 : Addr) (x3 : Int32) : entryFrame m #[(.ref x0), (.ref x1), (.ref x2), (.int x3)] 4 = mkF m 0 #[.val (.ref x0), .val (.ref x1), .val (.ref x2), .val (.int x3)] [] := by first | (simp [entryFrame, mkF, argsToLocals, Value.category]; done) | rfl
set_option maxRecDepth 65536 in
set_option maxHeartbeats 40000000 in
theorem rm_ct (l : Launch) (Z : State) (a0 : Array Value) (hw : ∀ d ∈ tables_1, d.before a0 Z = true) (a1 : Addr) (a2 : Addr) (a3 : Addr) (p4 : Int32) (h0 : Heap) (n0 : Nat) (H1 : Exa Z h0 a1 "com/example/glossyn/glossyn/index/Postings") (H2 : Fld Z h0 a1 "com/example/glossyn/glossyn/index/Postings" "documents" "[I" .null) (H3 : Fld Z h0 a1 "com/example/glossyn/glossyn/index/Postings" "frequencies" "[I" .null) (H4 : Fld Z h0 a1 "com/example/glossyn/glossyn/index/Postings" "size" "I" (.int (0 : Int32))) (H5 : n0 ≤ a1) :
    own_Met l Z (⟨"com/example/glossyn/glossyn/index/Postings", "<init>", "([I[II)V"⟩ : MethodName) prog_22_method_1_code 4 none ({ frames := 1, cells := 0, slots := 0, locals := 12 } : Room) #[(.ref a1), (.ref a2), (.ref a3), (.int p4)] h0 (fun v h L => v = none ∧ Fr n0 L ∧ Keep h0 h [a1] ∧ Fld Z h a1 "com/example/glossyn/glossyn/index/Postings" "documents" "[I" (.ref a2) ∧ Fld Z h a1 "com/example/glossyn/glossyn/index/Postings" "size" "I" (.int p4)) := by
  intro ws
  refine MetFree.of_bodySF (plainFor_of_name pn_c1) hisR ?_
  intro p e s m args below meth c s₁ Bd hml0 hP hK
  obtain ⟨rfl, hZ, hh⟩ := hP
  have hx := Bd.exec
  have hby := Bd.bytes
  have hml : c.maxLocals = 4 := hml0
  have hown : s.vm.findClass "com/example/glossyn/glossyn/index/Postings" = some m.cls := findClass_of_methodNamed Bd.named
  have hnm := (name_of_methodNamed Bd.named Bd.method).1
  have hlk : meth.locks = false := Bd.notSynchronized
  have X0 : Stand p l e ({ frames := 1, cells := 0, slots := 0, locals := 12 } : Room) s m #[(.ref a1), (.ref a2), (.ref a3), (.int p4)] below meth c s₁ [] 0 0 := Stand.of_body Bd
  have e0 : s₁.heap = h0 := by rw [← hh, Bd.state]; rfl
  have N0 := Fr.nil n0
  refine own_body (Q := fun v h L => v = none ∧ Fr n0 L ∧ Keep h0 h [a1] ∧ Fld Z h a1 "com/example/glossyn/glossyn/index/Postings" "documents" "[I" (.ref a2) ∧ Fld Z h a1 "com/example/glossyn/glossyn/index/Postings" "size" "I" (.int p4)) ?_
  generalize hΦ : own_Fin s below _ _ _ = Φ
  refine own_cast (ef_1_RRRI m a1 a2 a3 p4) ?_
  have K0 := Keep.refl h0 [a1]
  show own_Run p e below Φ (s₁.setTop (mkF m 0 #[.val (.ref a1), .val (.ref a2), .val (.ref a3), .val (.int p4)] []))
  refine own_go (fun t k => XS.aloadN X0.here hx rfl (hb hby d1_0) rfl rfl  k) ?_
  obtain ⟨T1, X1, e1, st1⟩ := initO X0 hx hZ hown (hw _ (List.mem_of_getElem? (i := 8) rfl)) (hw _ (List.mem_of_getElem? (i := 9) rfl)) (hw _ (List.mem_of_getElem? (i := 10) rfl)) e0 (g := (mkF m 1 #[.val (.ref a1), .val (.ref a2), .val (.ref a3), .val (.int p4)] [(.ref a1)])) rfl (by rw [hml]; rfl) rfl (hb hby d1_1) (by decide) (W := 0) (by show 2 * 0 + _ ≤ _; exact Nat.le_of_eq rfl) (by decide)
  refine own_go st1 ?_
  refine own_go (fun t k => XS.aloadN X1.here hx rfl (hb hby d1_4) rfl rfl  k) ?_
  refine own_go (fun t k => XS.aloadN X1.here hx rfl (hb hby d1_5) rfl rfl  k) ?_
  obtain ⟨T2, h2, X2, e2, W2, st2⟩ := putF X1 hx hZ hown (host := "") (Or.inl (hw _ (List.mem_of_getElem? (i := 11) rfl))) Via.refl e1 H2 H1 (Or.inr ⟨(hw _ (List.mem_of_getElem? (i := 12) rfl)), rfl, hnm⟩) (hw _ (List.mem_of_getElem? (i := 3) rfl)) (ty := (.array .int)) (by decide) rfl rfl (g := (mkF m 6 #[.val (.ref a1), .val (.ref a2), .val (.ref a3), .val (.int p4)] [(.ref a2), (.ref a1)])) rfl rfl (hb hby d1_6)
  refine own_go st2 ?_
  have G2 : Fld Z h2 a1 "com/example/glossyn/glossyn/index/Postings" "documents" "[I" (.ref a2) := H2.same W2
  have N2 := Fr.snoc X2 N0 H5
  show own_Run p e below Φ (T2.setTop (mkF m 9 #[.val (.ref a1), .val (.ref a2), .val (.ref a3), .val (.int p4)] []))
  refine own_go (fun t k => XS.aloadN X2.here hx rfl (hb hby d1_9) rfl rfl  k) ?_
  refine own_go (fun t k => XS.aloadN X2.here hx rfl (hb hby d1_10) rfl rfl  k) ?_
  have F3 : Fld Z h2 a1 "com/example/glossyn/glossyn/index/Postings" "frequencies" "[I" .null := (H3.other W2 (Or.inr (slot_ne (Or.inr (hw _ (List.mem_of_getElem? (i := 14) rfl))) (Or.inr (hw _ (List.mem_of_getElem? (i := 12) rfl))) (by decide) (t := (.array .int)) (t' := (.array .int)) (by decide) (by decide))))
  have F4 : Exa Z h2 a1 "com/example/glossyn/glossyn/index/Postings" := (H1.wr W2)
  obtain ⟨T5, h5, X5, e5, W5, st5⟩ := putF X2 hx hZ hown (host := "") (Or.inl (hw _ (List.mem_of_getElem? (i := 13) rfl))) Via.refl e2 F3 F4 (Or.inr ⟨(hw _ (List.mem_of_getElem? (i := 14) rfl)), rfl, hnm⟩) (hw _ (List.mem_of_getElem? (i := 3) rfl)) (ty := (.array .int)) (by decide) rfl rfl (g := (mkF m 11 #[.val (.ref a1), .val (.ref a2), .val (.ref a3), .val (.int p4)] [(.ref a3), (.ref a1)])) rfl rfl (hb hby d1_11)
  refine own_go st5 ?_
  have G5 : Fld Z h5 a1 "com/example/glossyn/glossyn/index/Postings" "frequencies" "[I" (.ref a3) := F3.same W5
  have N5 := Fr.snoc X5 N2 H5
  refine own_go (fun t k => XS.aloadN X5.here hx rfl (hb hby d1_14) rfl rfl  k) ?_
  refine own_go (fun t k => XS.iloadN X5.here hx rfl (hb hby d1_15) rfl  k) ?_
  show own_Run p e below Φ (T5.setTop (mkF m 16 #[.val (.ref a1), .val (.ref a2), .val (.ref a3), .val (.int p4)] [(.int p4), (.ref a1)]))
  have F6 : Fld Z h5 a1 "com/example/glossyn/glossyn/index/Postings" "size" "I" (.int (0 : Int32)) := ((H4.other W2 (Or.inr (slot_ne (Or.inr (hw _ (List.mem_of_getElem? (i := 16) rfl))) (Or.inr (hw _ (List.mem_of_getElem? (i := 12) rfl))) (by decide) (t := .int) (t' := (.array .int)) (by decide) (by decide)))).other W5 (Or.inr (slot_ne (Or.inr (hw _ (List.mem_of_getElem? (i := 16) rfl))) (Or.inr (hw _ (List.mem_of_getElem? (i := 14) rfl))) (by decide) (t := .int) (t' := (.array .int)) (by decide) (by decide))))
  have F7 : Exa Z h5 a1 "com/example/glossyn/glossyn/index/Postings" := (F4.wr W5)
  obtain ⟨T8, h8, X8, e8, W8, st8⟩ := putF X5 hx hZ hown (host := "") (Or.inl (hw _ (List.mem_of_getElem? (i := 15) rfl))) Via.refl e5 F6 F7 (Or.inr ⟨(hw _ (List.mem_of_getElem? (i := 16) rfl)), rfl, hnm⟩) (hw _ (List.mem_of_getElem? (i := 3) rfl)) (ty := .int) (by decide) rfl rfl (g := (mkF m 16 #[.val (.ref a1), .val (.ref a2), .val (.ref a3), .val (.int p4)] [(.int p4), (.ref a1)])) rfl rfl (hb hby d1_16)
  refine own_go st8 ?_
  have G8 : Fld Z h8 a1 "com/example/glossyn/glossyn/index/Postings" "size" "I" (.int p4) := F6.same W8
  have N8 := Fr.snoc X8 N5 H5
  have F9 : Keep h0 h8 [a1] := (((K0.wr W2 (Or.inl (List.mem_of_getElem? (i := 0) rfl))).wr W5 (Or.inl (List.mem_of_getElem? (i := 0) rfl))).wr W8 (Or.inl (List.mem_of_getElem? (i := 0) rfl)))
  have F10 : Fld Z h8 a1 "com/example/glossyn/glossyn/index/Postings" "documents" "[I" (.ref a2) := ((G2.other W5 (Or.inr (slot_ne (Or.inr (hw _ (List.mem_of_getElem? (i := 12) rfl))) (Or.inr (hw _ (List.mem_of_getElem? (i := 14) rfl))) (by decide) (t := (.array .int)) (t' := (.array .int)) (by decide) (by decide)))).other W8 (Or.inr (slot_ne (Or.inr (hw _ (List.mem_of_getElem? (i := 12) rfl))) (Or.inr (hw _ (List.mem_of_getElem? (i := 16) rfl))) (by decide) (t := (.array .int)) (t' := .int) (by decide) (by decide))))
  subst hΦ
  exact own_retV X8 hx Bd.returns hlk (hb hby d1_19) e8 ⟨rfl, N8, F9, F10, G8⟩ (by decide) (by decide)
theorem pn_c0 : plainName "com/example/glossyn/glossyn/index/PostingsContainsPinLaw" = true := by first | (simp [plainName, overriddenIn]; done) | decide +kernel
theorem pd_0 : parseMethodDescriptor "([I[II)V" = some ⟨[(.array .int), (.array .int), .int], none⟩ := by decide +kernel
theorem pd_2 : parseMethodDescriptor "(I)Z" = some ⟨[.int], some .boolean⟩ := by decide +kernel
theorem ef_0_IIIIII (m : MethodId) (x0 : Int32) (x1 : Int32) (x2 : Int32) (x3 : Int32) (x4 : Int32) (x5 : Int32) : entryFrame m #[(.int x0), (.int x1), (.int x2), (.int x3), (.int x4), (.int x5)] maxLocals = mkF m 0 #[.val (.int x0), .val (.int x1), .val (.int x2), .val (.int x3), .val (.int x4), .val (.int x5), .unset, .unset, .unset, .unset, .unset, .unset, .unset, .unset, .unset, .unset, .unset, .unset, .unset, .unset, .unset, .unset, .unset, .unset, .unset, .unset, .unset, .unset, .unset] [] := by first | (simp [entryFrame, mkF, argsToLocals, Value.category, maxLocals]; done) | rfl
set_option maxRecDepth 65536 in
set_option maxHeartbeats 40000000 in
theorem rm_law (l : Launch) (Z : State) (a0 : Array Value) (hw : ∀ d ∈ tables_1, d.before a0 Z = true) (p1 : Int32) (p2 : Int32) (p3 : Int32) (p4 : Int32) (p5 : Int32) (p6 : Int32) (h0 : Heap) (n0 : Nat) (Z0 : n0 ≤ h0.size) :
    own_Met l Z x code maxLocals ret room_1 #[(.int p1), (.int p2), (.int p3), (.int p4), (.int p5), (.int p6)] h0 (fun v h L => v = some (.int 1) ∧ Fr n0 L) := by
  intro ws
  refine MetFree.of_bodySF (plainFor_of_name pn_c0) hisR ?_
  intro p e s m args below meth c s₁ Bd hml0 hP hK
  obtain ⟨rfl, hZ, hh⟩ := hP
  have hx := Bd.exec
  have hby := Bd.bytes
  have hml : c.maxLocals = 29 := hml0
  have hown : s.vm.findClass "com/example/glossyn/glossyn/index/PostingsContainsPinLaw" = some m.cls := findClass_of_methodNamed Bd.named
  have hnm := (name_of_methodNamed Bd.named Bd.method).1
  have hlk : meth.locks = false := Bd.notSynchronized
  have X0 : Stand p l e room_1 s m #[(.int p1), (.int p2), (.int p3), (.int p4), (.int p5), (.int p6)] below meth c s₁ [] 0 0 := Stand.of_body Bd
  have e0 : s₁.heap = h0 := by rw [← hh, Bd.state]; rfl
  have N0 := Fr.nil n0
  refine own_body (Q := fun v h L => v = some (.int 1) ∧ Fr n0 L) ?_
  generalize hΦ : own_Fin s below _ _ _ = Φ
  refine own_cast (ef_0_IIIIII m p1 p2 p3 p4 p5 p6) ?_
  show own_Run p e below Φ (s₁.setTop (mkF m 0 #[.val (.int p1), .val (.int p2), .val (.int p3), .val (.int p4), .val (.int p5), .val (.int p6), .unset, .unset, .unset, .unset, .unset, .unset, .unset, .unset, .unset, .unset, .unset, .unset, .unset, .unset, .unset, .unset, .unset, .unset, .unset, .unset, .unset, .unset, .unset] []))
  refine own_go (fun t k => XS.iload X0.here hx rfl (hb hby at_0) rfl  k) ?_
  refine own_go (fun t k => XS.bipush X0.here hx rfl (hb hby at_2) k) ?_
  refine own_go (fun t k => XS.iand X0.here hx rfl (hb hby at_4) rfl k) ?_
  refine own_go (fun t k => XS.iconst X0.here hx rfl (hb hby at_5) k) ?_
  refine own_go (fun t k => Jvm.RoadKit.iremM X0 hx rfl (hb hby at_6) rfl (by decide) k) ?_
  show own_Run p e below Φ (s₁.setTop (mkF m 7 #[.val (.int p1), .val (.int p2), .val (.int p3), .val (.int p4), .val (.int p5), .val (.int p6), .unset, .unset, .unset, .unset, .unset, .unset, .unset, .unset, .unset, .unset, .unset, .unset, .unset, .unset, .unset, .unset, .unset, .unset, .unset, .unset, .unset, .unset, .unset] [(.int ((p5 &&& (7 : Int32)) % (5 : Int32)))]))
  refine own_go (fun t k => XS.istore X0.here hx rfl (hb hby at_7) rfl (l' := #[.val (.int p1), .val (.int p2), .val (.int p3), .val (.int p4), .val (.int p5), .val (.int p6), .val (.int ((p5 &&& (7 : Int32)) % (5 : Int32))), .unset, .unset, .unset, .unset, .unset, .unset, .unset, .unset, .unset, .unset, .unset, .unset, .unset, .unset, .unset, .unset, .unset, .unset, .unset, .unset, .unset, .unset]) rfl k) ?_
  show own_Run p e below Φ (s₁.setTop (mkF m 9 #[.val (.int p1), .val (.int p2), .val (.int p3), .val (.int p4), .val (.int p5), .val (.int p6), .val (.int ((p5 &&& (7 : Int32)) % (5 : Int32))), .unset, .unset, .unset, .unset, .unset, .unset, .unset, .unset, .unset, .unset, .unset, .unset, .unset, .unset, .unset, .unset, .unset, .unset, .unset, .unset, .unset, .unset] []))
  rcases own_n p5 with e1 | e1 | e1 | e1 | e1
  · rw [e1]
    show own_Run p e below Φ (s₁.setTop (mkF m 9 #[.val (.int p1), .val (.int p2), .val (.int p3), .val (.int p4), .val (.int p5), .val (.int p6), .val (.int (0 : Int32)), .unset, .unset, .unset, .unset, .unset, .unset, .unset, .unset, .unset, .unset, .unset, .unset, .unset, .unset, .unset, .unset, .unset, .unset, .unset, .unset, .unset, .unset] []))
    refine own_go (fun t k => XS.iloadN X0.here hx rfl (hb hby at_9) rfl  k) ?_
    refine own_go (fun t k => XS.i2l X0.here hx rfl (hb hby at_10) rfl k) ?_
    refine own_go (fun t k => XS.lstore X0.here hx rfl (hb hby at_11) rfl (l' := #[.val (.int p1), .val (.int p2), .val (.int p3), .val (.int p4), .val (.int p5), .val (.int p6), .val (.int (0 : Int32)), .val (.long (p1.toInt64)), .second, .unset, .unset, .unset, .unset, .unset, .unset, .unset, .unset, .unset, .unset, .unset, .unset, .unset, .unset, .unset, .unset, .unset, .unset, .unset, .unset]) rfl k) ?_
    refine own_go (fun t k => XS.lload X0.here hx rfl (hb hby at_13) rfl  k) ?_
    refine own_go (fun t k => XS.lconst X0.here hx rfl (hb hby at_15) k) ?_
    show own_Run p e below Φ (s₁.setTop (mkF m 16 #[.val (.int p1), .val (.int p2), .val (.int p3), .val (.int p4), .val (.int p5), .val (.int p6), .val (.int (0 : Int32)), .val (.long (p1.toInt64)), .second, .unset, .unset, .unset, .unset, .unset, .unset, .unset, .unset, .unset, .unset, .unset, .unset, .unset, .unset, .unset, .unset, .unset, .unset, .unset, .unset] [(.long (1 : Int64)), (.long (p1.toInt64))]))
    refine own_go (fun t k => XS.ladd X0.here hx rfl (hb hby at_16) rfl k) ?_
    refine own_go (fun t k => XS.iloadN X0.here hx rfl (hb hby at_17) rfl  k) ?_
    refine own_go (X0.ldcInt hx hown (mvT hZ (hw _ (List.mem_of_getElem? (i := 0) rfl))) (g := (mkF m 18 #[.val (.int p1), .val (.int p2), .val (.int p3), .val (.int p4), .val (.int p5), .val (.int p6), .val (.int (0 : Int32)), .val (.long (p1.toInt64)), .second, .unset, .unset, .unset, .unset, .unset, .unset, .unset, .unset, .unset, .unset, .unset, .unset, .unset, .unset, .unset, .unset, .unset, .unset, .unset, .unset] [(.int p2), (.long ((p1.toInt64) + (1 : Int64)))])) rfl (hb hby at_18)) ?_
    refine own_go (fun t k => XS.iand X0.here hx rfl (hb hby at_20) rfl k) ?_
    refine own_go (fun t k => XS.i2l X0.here hx rfl (hb hby at_21) rfl k) ?_
    show own_Run p e below Φ (s₁.setTop (mkF m 22 #[.val (.int p1), .val (.int p2), .val (.int p3), .val (.int p4), .val (.int p5), .val (.int p6), .val (.int (0 : Int32)), .val (.long (p1.toInt64)), .second, .unset, .unset, .unset, .unset, .unset, .unset, .unset, .unset, .unset, .unset, .unset, .unset, .unset, .unset, .unset, .unset, .unset, .unset, .unset, .unset] [(.long ((p2 &&& (65535 : Int32)).toInt64)), (.long ((p1.toInt64) + (1 : Int64)))]))
    refine own_go (fun t k => XS.ladd X0.here hx rfl (hb hby at_22) rfl k) ?_
    refine own_go (fun t k => XS.lstore X0.here hx rfl (hb hby at_23) rfl (l' := #[.val (.int p1), .val (.int p2), .val (.int p3), .val (.int p4), .val (.int p5), .val (.int p6), .val (.int (0 : Int32)), .val (.long (p1.toInt64)), .second, .val (.long (((p1.toInt64) + (1 : Int64)) + ((p2 &&& (65535 : Int32)).toInt64))), .second, .unset, .unset, .unset, .unset, .unset, .unset, .unset, .unset, .unset, .unset, .unset, .unset, .unset, .unset, .unset, .unset, .unset, .unset]) rfl k) ?_
    refine own_go (fun t k => XS.lload X0.here hx rfl (hb hby at_25) rfl  k) ?_
    refine own_go (fun t k => XS.lconst X0.here hx rfl (hb hby at_27) k) ?_
    refine own_go (fun t k => XS.ladd X0.here hx rfl (hb hby at_28) rfl k) ?_
    show own_Run p e below Φ (s₁.setTop (mkF m 29 #[.val (.int p1), .val (.int p2), .val (.int p3), .val (.int p4), .val (.int p5), .val (.int p6), .val (.int (0 : Int32)), .val (.long (p1.toInt64)), .second, .val (.long (((p1.toInt64) + (1 : Int64)) + ((p2 &&& (65535 : Int32)).toInt64))), .second, .unset, .unset, .unset, .unset, .unset, .unset, .unset, .unset, .unset, .unset, .unset, .unset, .unset, .unset, .unset, .unset, .unset, .unset] [(.long ((((p1.toInt64) + (1 : Int64)) + ((p2 &&& (65535 : Int32)).toInt64)) + (1 : Int64)))]))
    refine own_go (fun t k => XS.iloadN X0.here hx rfl (hb hby at_29) rfl  k) ?_
    refine own_go (X0.ldcInt hx hown (mvT hZ (hw _ (List.mem_of_getElem? (i := 0) rfl))) (g := (mkF m 30 #[.val (.int p1), .val (.int p2), .val (.int p3), .val (.int p4), .val (.int p5), .val (.int p6), .val (.int (0 : Int32)), .val (.long (p1.toInt64)), .second, .val (.long (((p1.toInt64) + (1 : Int64)) + ((p2 &&& (65535 : Int32)).toInt64))), .second, .unset, .unset, .unset, .unset, .unset, .unset, .unset, .unset, .unset, .unset, .unset, .unset, .unset, .unset, .unset, .unset, .unset, .unset] [(.int p3), (.long ((((p1.toInt64) + (1 : Int64)) + ((p2 &&& (65535 : Int32)).toInt64)) + (1 : Int64)))])) rfl (hb hby at_30)) ?_
    refine own_go (fun t k => XS.iand X0.here hx rfl (hb hby at_32) rfl k) ?_
    refine own_go (fun t k => XS.i2l X0.here hx rfl (hb hby at_33) rfl k) ?_
    refine own_go (fun t k => XS.ladd X0.here hx rfl (hb hby at_34) rfl k) ?_
    show own_Run p e below Φ (s₁.setTop (mkF m 35 #[.val (.int p1), .val (.int p2), .val (.int p3), .val (.int p4), .val (.int p5), .val (.int p6), .val (.int (0 : Int32)), .val (.long (p1.toInt64)), .second, .val (.long (((p1.toInt64) + (1 : Int64)) + ((p2 &&& (65535 : Int32)).toInt64))), .second, .unset, .unset, .unset, .unset, .unset, .unset, .unset, .unset, .unset, .unset, .unset, .unset, .unset, .unset, .unset, .unset, .unset, .unset] [(.long (((((p1.toInt64) + (1 : Int64)) + ((p2 &&& (65535 : Int32)).toInt64)) + (1 : Int64)) + ((p3 &&& (65535 : Int32)).toInt64)))]))
    refine own_go (fun t k => XS.lstore X0.here hx rfl (hb hby at_35) rfl (l' := #[.val (.int p1), .val (.int p2), .val (.int p3), .val (.int p4), .val (.int p5), .val (.int p6), .val (.int (0 : Int32)), .val (.long (p1.toInt64)), .second, .val (.long (((p1.toInt64) + (1 : Int64)) + ((p2 &&& (65535 : Int32)).toInt64))), .second, .val (.long (((((p1.toInt64) + (1 : Int64)) + ((p2 &&& (65535 : Int32)).toInt64)) + (1 : Int64)) + ((p3 &&& (65535 : Int32)).toInt64))), .second, .unset, .unset, .unset, .unset, .unset, .unset, .unset, .unset, .unset, .unset, .unset, .unset, .unset, .unset, .unset, .unset]) rfl k) ?_
    refine own_go (fun t k => XS.lload X0.here hx rfl (hb hby at_37) rfl  k) ?_
    refine own_go (fun t k => XS.lconst X0.here hx rfl (hb hby at_39) k) ?_
    refine own_go (fun t k => XS.ladd X0.here hx rfl (hb hby at_40) rfl k) ?_
    refine own_go (fun t k => XS.iloadN X0.here hx rfl (hb hby at_41) rfl  k) ?_
    show own_Run p e below Φ (s₁.setTop (mkF m 42 #[.val (.int p1), .val (.int p2), .val (.int p3), .val (.int p4), .val (.int p5), .val (.int p6), .val (.int (0 : Int32)), .val (.long (p1.toInt64)), .second, .val (.long (((p1.toInt64) + (1 : Int64)) + ((p2 &&& (65535 : Int32)).toInt64))), .second, .val (.long (((((p1.toInt64) + (1 : Int64)) + ((p2 &&& (65535 : Int32)).toInt64)) + (1 : Int64)) + ((p3 &&& (65535 : Int32)).toInt64))), .second, .unset, .unset, .unset, .unset, .unset, .unset, .unset, .unset, .unset, .unset, .unset, .unset, .unset, .unset, .unset, .unset] [(.int p4), (.long ((((((p1.toInt64) + (1 : Int64)) + ((p2 &&& (65535 : Int32)).toInt64)) + (1 : Int64)) + ((p3 &&& (65535 : Int32)).toInt64)) + (1 : Int64)))]))
    refine own_go (X0.ldcInt hx hown (mvT hZ (hw _ (List.mem_of_getElem? (i := 0) rfl))) (g := (mkF m 42 #[.val (.int p1), .val (.int p2), .val (.int p3), .val (.int p4), .val (.int p5), .val (.int p6), .val (.int (0 : Int32)), .val (.long (p1.toInt64)), .second, .val (.long (((p1.toInt64) + (1 : Int64)) + ((p2 &&& (65535 : Int32)).toInt64))), .second, .val (.long (((((p1.toInt64) + (1 : Int64)) + ((p2 &&& (65535 : Int32)).toInt64)) + (1 : Int64)) + ((p3 &&& (65535 : Int32)).toInt64))), .second, .unset, .unset, .unset, .unset, .unset, .unset, .unset, .unset, .unset, .unset, .unset, .unset, .unset, .unset, .unset, .unset] [(.int p4), (.long ((((((p1.toInt64) + (1 : Int64)) + ((p2 &&& (65535 : Int32)).toInt64)) + (1 : Int64)) + ((p3 &&& (65535 : Int32)).toInt64)) + (1 : Int64)))])) rfl (hb hby at_42)) ?_
    refine own_go (fun t k => XS.iand X0.here hx rfl (hb hby at_44) rfl k) ?_
    refine own_go (fun t k => XS.i2l X0.here hx rfl (hb hby at_45) rfl k) ?_
    refine own_go (fun t k => XS.ladd X0.here hx rfl (hb hby at_46) rfl k) ?_
    refine own_go (fun t k => XS.lstore X0.here hx rfl (hb hby at_47) rfl (l' := #[.val (.int p1), .val (.int p2), .val (.int p3), .val (.int p4), .val (.int p5), .val (.int p6), .val (.int (0 : Int32)), .val (.long (p1.toInt64)), .second, .val (.long (((p1.toInt64) + (1 : Int64)) + ((p2 &&& (65535 : Int32)).toInt64))), .second, .val (.long (((((p1.toInt64) + (1 : Int64)) + ((p2 &&& (65535 : Int32)).toInt64)) + (1 : Int64)) + ((p3 &&& (65535 : Int32)).toInt64))), .second, .val (.long (((((((p1.toInt64) + (1 : Int64)) + ((p2 &&& (65535 : Int32)).toInt64)) + (1 : Int64)) + ((p3 &&& (65535 : Int32)).toInt64)) + (1 : Int64)) + ((p4 &&& (65535 : Int32)).toInt64))), .second, .unset, .unset, .unset, .unset, .unset, .unset, .unset, .unset, .unset, .unset, .unset, .unset, .unset, .unset]) rfl k) ?_
    show own_Run p e below Φ (s₁.setTop (mkF m 49 #[.val (.int p1), .val (.int p2), .val (.int p3), .val (.int p4), .val (.int p5), .val (.int p6), .val (.int (0 : Int32)), .val (.long (p1.toInt64)), .second, .val (.long (((p1.toInt64) + (1 : Int64)) + ((p2 &&& (65535 : Int32)).toInt64))), .second, .val (.long (((((p1.toInt64) + (1 : Int64)) + ((p2 &&& (65535 : Int32)).toInt64)) + (1 : Int64)) + ((p3 &&& (65535 : Int32)).toInt64))), .second, .val (.long (((((((p1.toInt64) + (1 : Int64)) + ((p2 &&& (65535 : Int32)).toInt64)) + (1 : Int64)) + ((p3 &&& (65535 : Int32)).toInt64)) + (1 : Int64)) + ((p4 &&& (65535 : Int32)).toInt64))), .second, .unset, .unset, .unset, .unset, .unset, .unset, .unset, .unset, .unset, .unset, .unset, .unset, .unset, .unset] []))
    have r0 := rng32 p1
    have q0 := c_i2l p1
    generalize ela : (p1.toInt64) = la at q0 ⊢
    obtain ⟨qlb, mlb, wlb⟩ := own_up la p2 (by omega) (by omega)
    generalize elb : ((la + (1 : Int64)) + ((p2 &&& (65535 : Int32)).toInt64)) = lb at qlb ⊢
    obtain ⟨qlc, mlc, wlc⟩ := own_up lb p3 (by omega) (by omega)
    generalize elc : ((lb + (1 : Int64)) + ((p3 &&& (65535 : Int32)).toInt64)) = lc at qlc ⊢
    obtain ⟨qld, mld, wld⟩ := own_up lc p4 (by omega) (by omega)
    generalize eld : ((lc + (1 : Int64)) + ((p4 &&& (65535 : Int32)).toInt64)) = ld at qld ⊢
    show own_Run p e below Φ (s₁.setTop (mkF m 49 #[.val (.int p1), .val (.int p2), .val (.int p3), .val (.int p4), .val (.int p5), .val (.int p6), .val (.int (0 : Int32)), .val (.long la), .second, .val (.long lb), .second, .val (.long lc), .second, .val (.long ld), .second, .unset, .unset, .unset, .unset, .unset, .unset, .unset, .unset, .unset, .unset, .unset, .unset, .unset, .unset] []))
    refine own_go (fun t k => XS.iload X0.here hx rfl (hb hby at_49) rfl  k) ?_
    refine own_go (fun t k => XS.iconst X0.here hx rfl (hb hby at_51) k) ?_
    refine own_go (fun t k => XS.icmpYes X0.here hx rfl (pc0 := 52) (pc' := 60) rfl (hb hby at_52) rfl (feq (by decide : ¬ ((0 : Int32) = (4 : Int32)))).2 (by decide) (by decide) k) ?_
    refine own_go (fun t k => XS.iload X0.here hx rfl (hb hby at_60) rfl  k) ?_
    refine own_go (fun t k => XS.iconst X0.here hx rfl (hb hby at_62) k) ?_
    show own_Run p e below Φ (s₁.setTop (mkF m 63 #[.val (.int p1), .val (.int p2), .val (.int p3), .val (.int p4), .val (.int p5), .val (.int p6), .val (.int (0 : Int32)), .val (.long la), .second, .val (.long lb), .second, .val (.long lc), .second, .val (.long ld), .second, .unset, .unset, .unset, .unset, .unset, .unset, .unset, .unset, .unset, .unset, .unset, .unset, .unset, .unset] [(.int (3 : Int32)), (.int (0 : Int32))]))
    refine own_go (fun t k => XS.icmpYes X0.here hx rfl (pc0 := 63) (pc' := 71) rfl (hb hby at_63) rfl (feq (by decide : ¬ ((0 : Int32) = (3 : Int32)))).2 (by decide) (by decide) k) ?_
    refine own_go (fun t k => XS.lload X0.here hx rfl (hb hby at_71) rfl  k) ?_
    refine own_go (fun t k => XS.lstore X0.here hx rfl (hb hby at_73) rfl (l' := #[.val (.int p1), .val (.int p2), .val (.int p3), .val (.int p4), .val (.int p5), .val (.int p6), .val (.int (0 : Int32)), .val (.long la), .second, .val (.long lb), .second, .val (.long lc), .second, .val (.long ld), .second, .val (.long lb), .second, .unset, .unset, .unset, .unset, .unset, .unset, .unset, .unset, .unset, .unset, .unset, .unset]) rfl k) ?_
    refine own_go (fun t k => XS.iload X0.here hx rfl (hb hby at_75) rfl  k) ?_
    refine own_go (fun t k => XS.iconst X0.here hx rfl (hb hby at_77) k) ?_
    show own_Run p e below Φ (s₁.setTop (mkF m 78 #[.val (.int p1), .val (.int p2), .val (.int p3), .val (.int p4), .val (.int p5), .val (.int p6), .val (.int (0 : Int32)), .val (.long la), .second, .val (.long lb), .second, .val (.long lc), .second, .val (.long ld), .second, .val (.long lb), .second, .unset, .unset, .unset, .unset, .unset, .unset, .unset, .unset, .unset, .unset, .unset, .unset] [(.int (2 : Int32)), (.int (0 : Int32))]))
    refine own_go (fun t k => XS.icmpYes X0.here hx rfl (pc0 := 78) (pc' := 92) rfl (hb hby at_78) rfl (tlt (by decide : (0 : Int32) < (2 : Int32))).1 (by decide) (by decide) k) ?_
    refine own_go (fun t k => XS.lload X0.here hx rfl (hb hby at_92) rfl  k) ?_
    refine own_go (fun t k => XS.l2i X0.here hx rfl (hb hby at_94) rfl k) ?_
    refine own_go (fun t k => XS.istore X0.here hx rfl (hb hby at_95) rfl (l' := #[.val (.int p1), .val (.int p2), .val (.int p3), .val (.int p4), .val (.int p5), .val (.int p6), .val (.int (0 : Int32)), .val (.long la), .second, .val (.long lb), .second, .val (.long lc), .second, .val (.long ld), .second, .val (.long lb), .second, .val (.int (la.toInt32)), .unset, .unset, .unset, .unset, .unset, .unset, .unset, .unset, .unset, .unset, .unset]) rfl k) ?_
    refine own_go (fun t k => XS.lload X0.here hx rfl (hb hby at_97) rfl  k) ?_
    show own_Run p e below Φ (s₁.setTop (mkF m 99 #[.val (.int p1), .val (.int p2), .val (.int p3), .val (.int p4), .val (.int p5), .val (.int p6), .val (.int (0 : Int32)), .val (.long la), .second, .val (.long lb), .second, .val (.long lc), .second, .val (.long ld), .second, .val (.long lb), .second, .val (.int (la.toInt32)), .unset, .unset, .unset, .unset, .unset, .unset, .unset, .unset, .unset, .unset, .unset] [(.long lb)]))
    refine own_go (fun t k => XS.l2i X0.here hx rfl (hb hby at_99) rfl k) ?_
    refine own_go (fun t k => XS.istore X0.here hx rfl (hb hby at_100) rfl (l' := #[.val (.int p1), .val (.int p2), .val (.int p3), .val (.int p4), .val (.int p5), .val (.int p6), .val (.int (0 : Int32)), .val (.long la), .second, .val (.long lb), .second, .val (.long lc), .second, .val (.long ld), .second, .val (.long lb), .second, .val (.int (la.toInt32)), .val (.int (lb.toInt32)), .unset, .unset, .unset, .unset, .unset, .unset, .unset, .unset, .unset, .unset]) rfl k) ?_
    refine own_go (fun t k => XS.lload X0.here hx rfl (hb hby at_102) rfl  k) ?_
    refine own_go (fun t k => XS.l2i X0.here hx rfl (hb hby at_104) rfl k) ?_
    refine own_go (fun t k => XS.istore X0.here hx rfl (hb hby at_105) rfl (l' := #[.val (.int p1), .val (.int p2), .val (.int p3), .val (.int p4), .val (.int p5), .val (.int p6), .val (.int (0 : Int32)), .val (.long la), .second, .val (.long lb), .second, .val (.long lc), .second, .val (.long ld), .second, .val (.long lb), .second, .val (.int (la.toInt32)), .val (.int (lb.toInt32)), .val (.int (lc.toInt32)), .unset, .unset, .unset, .unset, .unset, .unset, .unset, .unset, .unset]) rfl k) ?_
    show own_Run p e below Φ (s₁.setTop (mkF m 107 #[.val (.int p1), .val (.int p2), .val (.int p3), .val (.int p4), .val (.int p5), .val (.int p6), .val (.int (0 : Int32)), .val (.long la), .second, .val (.long lb), .second, .val (.long lc), .second, .val (.long ld), .second, .val (.long lb), .second, .val (.int (la.toInt32)), .val (.int (lb.toInt32)), .val (.int (lc.toInt32)), .unset, .unset, .unset, .unset, .unset, .unset, .unset, .unset, .unset] []))
    refine own_go (fun t k => XS.lload X0.here hx rfl (hb hby at_107) rfl  k) ?_
    refine own_go (fun t k => XS.l2i X0.here hx rfl (hb hby at_109) rfl k) ?_
    refine own_go (fun t k => XS.istore X0.here hx rfl (hb hby at_110) rfl (l' := #[.val (.int p1), .val (.int p2), .val (.int p3), .val (.int p4), .val (.int p5), .val (.int p6), .val (.int (0 : Int32)), .val (.long la), .second, .val (.long lb), .second, .val (.long lc), .second, .val (.long ld), .second, .val (.long lb), .second, .val (.int (la.toInt32)), .val (.int (lb.toInt32)), .val (.int (lc.toInt32)), .val (.int (ld.toInt32)), .unset, .unset, .unset, .unset, .unset, .unset, .unset, .unset]) rfl k) ?_
    show own_Run p e below Φ (s₁.setTop (mkF m 112 #[.val (.int p1), .val (.int p2), .val (.int p3), .val (.int p4), .val (.int p5), .val (.int p6), .val (.int (0 : Int32)), .val (.long la), .second, .val (.long lb), .second, .val (.long lc), .second, .val (.long ld), .second, .val (.long lb), .second, .val (.int (la.toInt32)), .val (.int (lb.toInt32)), .val (.int (lc.toInt32)), .val (.int (ld.toInt32)), .unset, .unset, .unset, .unset, .unset, .unset, .unset, .unset] []))
    have d0 := own_dn la (by omega) (by omega)
    generalize ed0 : la.toInt32 = x0 at d0 ⊢
    generalize ed1 : lb.toInt32 = x1
    generalize ed2 : lc.toInt32 = x2
    generalize ed3 : ld.toInt32 = x3
    have J230_1 : ∀ (q : Int32) (m1 : Int32) (m2 : Int32) (m3 : Int32), own_Run p e below Φ (s₁.setTop (mkF m 230 #[.val (.int p1), .val (.int p2), .val (.int p3), .val (.int p4), .val (.int p5), .val (.int p6), .val (.int (0 : Int32)), .val (.long la), .second, .val (.long lb), .second, .val (.long lc), .second, .val (.long ld), .second, .val (.long lb), .second, .val (.int x0), .val (.int x1), .val (.int x2), .val (.int x3), .val (.int m1), .val (.int m2), .val (.int m3), .val (.int q), .unset, .unset, .unset, .unset] [])) := by
      intro q m1 m2 m3
      show own_Run p e below Φ (s₁.setTop (mkF m 230 #[.val (.int p1), .val (.int p2), .val (.int p3), .val (.int p4), .val (.int p5), .val (.int p6), .val (.int (0 : Int32)), .val (.long la), .second, .val (.long lb), .second, .val (.long lc), .second, .val (.long ld), .second, .val (.long lb), .second, .val (.int x0), .val (.int x1), .val (.int x2), .val (.int x3), .val (.int m1), .val (.int m2), .val (.int m3), .val (.int q), .unset, .unset, .unset, .unset] []))
      refine own_go (fun t k => XS.iconst X0.here hx rfl (hb hby at_230) k) ?_
      refine own_newP X0 hx hZ (hw _ (List.mem_of_getElem? (i := 1) rfl)) e0 (g := (mkF m 231 #[.val (.int p1), .val (.int p2), .val (.int p3), .val (.int p4), .val (.int p5), .val (.int p6), .val (.int (0 : Int32)), .val (.long la), .second, .val (.long lb), .second, .val (.long lc), .second, .val (.long ld), .second, .val (.long lb), .second, .val (.int x0), .val (.int x1), .val (.int x2), .val (.int x3), .val (.int m1), .val (.int m2), .val (.int m3), .val (.int q), .unset, .unset, .unset, .unset] [(.int (5 : Int32))])) rfl (hb hby at_231) rfl (by decide) 5 (by decide) (by decide) (by decide) (by decide) 5 (fun T2 h2 k2 b2 X2 e2 E2 g2 V2 => ?_)
      replace V2 : Arv Z h2 b2 k2 .int (5 : Int32) [(.int (0 : Int32)), (.int (0 : Int32)), (.int (0 : Int32)), (.int (0 : Int32)), (.int (0 : Int32))] (.int (0 : Int32)) := V2
      refine own_go (fun t k => XS.astore X2.here hx rfl (hb hby at_233) rfl rfl (l' := #[.val (.int p1), .val (.int p2), .val (.int p3), .val (.int p4), .val (.int p5), .val (.int p6), .val (.int (0 : Int32)), .val (.long la), .second, .val (.long lb), .second, .val (.long lc), .second, .val (.long ld), .second, .val (.long lb), .second, .val (.int x0), .val (.int x1), .val (.int x2), .val (.int x3), .val (.int m1), .val (.int m2), .val (.int m3), .val (.int q), .val (.ref b2), .unset, .unset, .unset]) rfl k) ?_
      refine own_go (fun t k => XS.iconst X2.here hx rfl (hb hby at_235) k) ?_
      have F5 : n0 ≤ h2.size := (Nat.le_trans Z0 E2.1)
      refine own_newP X2 hx hZ (hw _ (List.mem_of_getElem? (i := 1) rfl)) e2 (g := (mkF m 236 #[.val (.int p1), .val (.int p2), .val (.int p3), .val (.int p4), .val (.int p5), .val (.int p6), .val (.int (0 : Int32)), .val (.long la), .second, .val (.long lb), .second, .val (.long lc), .second, .val (.long ld), .second, .val (.long lb), .second, .val (.int x0), .val (.int x1), .val (.int x2), .val (.int x3), .val (.int m1), .val (.int m2), .val (.int m3), .val (.int q), .val (.ref b2), .unset, .unset, .unset] [(.int (5 : Int32))])) rfl (hb hby at_236) rfl (by decide) 5 (by decide) (by decide) (by decide) (by decide) 5 (fun T4 h4 k4 b4 X4 e4 E4 g4 V4 => ?_)
      have ne_b2_b4 : b2 ≠ b4 := Nat.ne_of_lt (Nat.lt_of_lt_of_le V2.lt (Nat.le_of_eq g4.symm))
      replace V4 : Arv Z h4 b4 k4 .int (5 : Int32) [(.int (0 : Int32)), (.int (0 : Int32)), (.int (0 : Int32)), (.int (0 : Int32)), (.int (0 : Int32))] (.int (0 : Int32)) := V4
      show own_Run p e below Φ (T4.setTop (mkF m 238 #[.val (.int p1), .val (.int p2), .val (.int p3), .val (.int p4), .val (.int p5), .val (.int p6), .val (.int (0 : Int32)), .val (.long la), .second, .val (.long lb), .second, .val (.long lc), .second, .val (.long ld), .second, .val (.long lb), .second, .val (.int x0), .val (.int x1), .val (.int x2), .val (.int x3), .val (.int m1), .val (.int m2), .val (.int m3), .val (.int q), .val (.ref b2), .unset, .unset, .unset] [(.ref b4)]))
      refine own_go (fun t k => XS.astore X4.here hx rfl (hb hby at_238) rfl rfl (l' := #[.val (.int p1), .val (.int p2), .val (.int p3), .val (.int p4), .val (.int p5), .val (.int p6), .val (.int (0 : Int32)), .val (.long la), .second, .val (.long lb), .second, .val (.long lc), .second, .val (.long ld), .second, .val (.long lb), .second, .val (.int x0), .val (.int x1), .val (.int x2), .val (.int x3), .val (.int m1), .val (.int m2), .val (.int m3), .val (.int q), .val (.ref b2), .val (.ref b4), .unset, .unset]) rfl k) ?_
      refine own_go (fun t k => XS.aload X4.here hx rfl (hb hby at_240) rfl rfl  k) ?_
      refine own_go (fun t k => XS.iconst X4.here hx rfl (hb hby at_242) k) ?_
      refine own_go (fun t k => XS.iload X4.here hx rfl (hb hby at_243) rfl  k) ?_
      refine own_go (fun t k => XS.ifYes X4.here hx rfl (pc0 := 245) (pc' := 253) rfl (hb hby at_245) rfl ((if0 _ _).trans (flt (by decide : ¬ ((0 : Int32) < (0 : Int32)))).2.2.2) (by decide) (by decide) k) ?_
      show own_Run p e below Φ (T4.setTop (mkF m 253 #[.val (.int p1), .val (.int p2), .val (.int p3), .val (.int p4), .val (.int p5), .val (.int p6), .val (.int (0 : Int32)), .val (.long la), .second, .val (.long lb), .second, .val (.long lc), .second, .val (.long ld), .second, .val (.long lb), .second, .val (.int x0), .val (.int x1), .val (.int x2), .val (.int x3), .val (.int m1), .val (.int m2), .val (.int m3), .val (.int q), .val (.ref b2), .val (.ref b4), .unset, .unset] [(.int (0 : Int32)), (.ref b2)]))
      refine own_go (fun t k => XS.iload X4.here hx rfl (hb hby at_253) rfl  k) ?_
      have F7 : Arv Z h4 b2 k2 .int (5 : Int32) [(.int (0 : Int32)), (.int (0 : Int32)), (.int (0 : Int32)), (.int (0 : Int32)), (.int (0 : Int32))] (.int (0 : Int32)) := (V2.ext E4)
      refine own_iastore X4 hx hZ e4 F7 (j := (0 : Int32)) ⟨by decide, by decide⟩ 0 rfl (Nat.le_of_ble_eq_true rfl) (g := (mkF m 255 #[.val (.int p1), .val (.int p2), .val (.int p3), .val (.int p4), .val (.int p5), .val (.int p6), .val (.int (0 : Int32)), .val (.long la), .second, .val (.long lb), .second, .val (.long lc), .second, .val (.long ld), .second, .val (.long lb), .second, .val (.int x0), .val (.int x1), .val (.int x2), .val (.int x3), .val (.int m1), .val (.int m2), .val (.int m3), .val (.int q), .val (.ref b2), .val (.ref b4), .unset, .unset] [(.int q), (.int (0 : Int32)), (.ref b2)])) rfl rfl (hb hby at_255) (fun T8 h8 X8 e8 W8 V8 => ?_)
      replace V8 : Arv Z h8 b2 k2 .int (5 : Int32) [(.int q), (.int (0 : Int32)), (.int (0 : Int32)), (.int (0 : Int32)), (.int (0 : Int32))] (.int (0 : Int32)) := V8
      have N8 := Fr.snoc X8 N0 (Nat.le_trans Z0 (Nat.le_of_eq g2.symm))
      refine own_go (fun t k => XS.aload X8.here hx rfl (hb hby at_256) rfl rfl  k) ?_
      refine own_go (fun t k => XS.iconst X8.here hx rfl (hb hby at_258) k) ?_
      refine own_go (fun t k => XS.iload X8.here hx rfl (hb hby at_259) rfl  k) ?_
      show own_Run p e below Φ (T8.setTop (mkF m 261 #[.val (.int p1), .val (.int p2), .val (.int p3), .val (.int p4), .val (.int p5), .val (.int p6), .val (.int (0 : Int32)), .val (.long la), .second, .val (.long lb), .second, .val (.long lc), .second, .val (.long ld), .second, .val (.long lb), .second, .val (.int x0), .val (.int x1), .val (.int x2), .val (.int x3), .val (.int m1), .val (.int m2), .val (.int m3), .val (.int q), .val (.ref b2), .val (.ref b4), .unset, .unset] [(.int (0 : Int32)), (.int (1 : Int32)), (.ref b2)]))
      refine own_go (fun t k => XS.iconst X8.here hx rfl (hb hby at_261) k) ?_
      refine own_go (fun t k => XS.icmpYes X8.here hx rfl (pc0 := 262) (pc' := 270) rfl (hb hby at_262) rfl (flt (by decide : ¬ ((1 : Int32) < (0 : Int32)))).2.2.2 (by decide) (by decide) k) ?_
      refine own_go (fun t k => XS.iload X8.here hx rfl (hb hby at_270) rfl  k) ?_
      refine own_iastore X8 hx hZ e8 V8 (j := (1 : Int32)) ⟨by decide, by decide⟩ 1 rfl (Nat.le_of_ble_eq_true rfl) (g := (mkF m 272 #[.val (.int p1), .val (.int p2), .val (.int p3), .val (.int p4), .val (.int p5), .val (.int p6), .val (.int (0 : Int32)), .val (.long la), .second, .val (.long lb), .second, .val (.long lc), .second, .val (.long ld), .second, .val (.long lb), .second, .val (.int x0), .val (.int x1), .val (.int x2), .val (.int x3), .val (.int m1), .val (.int m2), .val (.int m3), .val (.int q), .val (.ref b2), .val (.ref b4), .unset, .unset] [(.int q), (.int (1 : Int32)), (.ref b2)])) rfl rfl (hb hby at_272) (fun T9 h9 X9 e9 W9 V9 => ?_)
      replace V9 : Arv Z h9 b2 k2 .int (5 : Int32) [(.int q), (.int q), (.int (0 : Int32)), (.int (0 : Int32)), (.int (0 : Int32))] (.int (0 : Int32)) := V9
      have N9 := Fr.snoc X9 N8 (Nat.le_trans Z0 (Nat.le_of_eq g2.symm))
      refine own_go (fun t k => XS.aload X9.here hx rfl (hb hby at_273) rfl rfl  k) ?_
      show own_Run p e below Φ (T9.setTop (mkF m 275 #[.val (.int p1), .val (.int p2), .val (.int p3), .val (.int p4), .val (.int p5), .val (.int p6), .val (.int (0 : Int32)), .val (.long la), .second, .val (.long lb), .second, .val (.long lc), .second, .val (.long ld), .second, .val (.long lb), .second, .val (.int x0), .val (.int x1), .val (.int x2), .val (.int x3), .val (.int m1), .val (.int m2), .val (.int m3), .val (.int q), .val (.ref b2), .val (.ref b4), .unset, .unset] [(.ref b2)]))
      refine own_go (fun t k => XS.iconst X9.here hx rfl (hb hby at_275) k) ?_
      refine own_go (fun t k => XS.iload X9.here hx rfl (hb hby at_276) rfl  k) ?_
      refine own_go (fun t k => XS.iconst X9.here hx rfl (hb hby at_278) k) ?_
      refine own_go (fun t k => XS.icmpYes X9.here hx rfl (pc0 := 279) (pc' := 287) rfl (hb hby at_279) rfl (flt (by decide : ¬ ((2 : Int32) < (0 : Int32)))).2.2.2 (by decide) (by decide) k) ?_
      refine own_go (fun t k => XS.iload X9.here hx rfl (hb hby at_287) rfl  k) ?_
      show own_Run p e below Φ (T9.setTop (mkF m 289 #[.val (.int p1), .val (.int p2), .val (.int p3), .val (.int p4), .val (.int p5), .val (.int p6), .val (.int (0 : Int32)), .val (.long la), .second, .val (.long lb), .second, .val (.long lc), .second, .val (.long ld), .second, .val (.long lb), .second, .val (.int x0), .val (.int x1), .val (.int x2), .val (.int x3), .val (.int m1), .val (.int m2), .val (.int m3), .val (.int q), .val (.ref b2), .val (.ref b4), .unset, .unset] [(.int q), (.int (2 : Int32)), (.ref b2)]))
      refine own_iastore X9 hx hZ e9 V9 (j := (2 : Int32)) ⟨by decide, by decide⟩ 2 rfl (Nat.le_of_ble_eq_true rfl) (g := (mkF m 289 #[.val (.int p1), .val (.int p2), .val (.int p3), .val (.int p4), .val (.int p5), .val (.int p6), .val (.int (0 : Int32)), .val (.long la), .second, .val (.long lb), .second, .val (.long lc), .second, .val (.long ld), .second, .val (.long lb), .second, .val (.int x0), .val (.int x1), .val (.int x2), .val (.int x3), .val (.int m1), .val (.int m2), .val (.int m3), .val (.int q), .val (.ref b2), .val (.ref b4), .unset, .unset] [(.int q), (.int (2 : Int32)), (.ref b2)])) rfl rfl (hb hby at_289) (fun T10 h10 X10 e10 W10 V10 => ?_)
      replace V10 : Arv Z h10 b2 k2 .int (5 : Int32) [(.int q), (.int q), (.int q), (.int (0 : Int32)), (.int (0 : Int32))] (.int (0 : Int32)) := V10
      have N10 := Fr.snoc X10 N9 (Nat.le_trans Z0 (Nat.le_of_eq g2.symm))
      refine own_go (fun t k => XS.aload X10.here hx rfl (hb hby at_290) rfl rfl  k) ?_
      refine own_go (fun t k => XS.iconst X10.here hx rfl (hb hby at_292) k) ?_
      refine own_go (fun t k => XS.iload X10.here hx rfl (hb hby at_293) rfl  k) ?_
      refine own_go (fun t k => XS.iconst X10.here hx rfl (hb hby at_295) k) ?_
      show own_Run p e below Φ (T10.setTop (mkF m 296 #[.val (.int p1), .val (.int p2), .val (.int p3), .val (.int p4), .val (.int p5), .val (.int p6), .val (.int (0 : Int32)), .val (.long la), .second, .val (.long lb), .second, .val (.long lc), .second, .val (.long ld), .second, .val (.long lb), .second, .val (.int x0), .val (.int x1), .val (.int x2), .val (.int x3), .val (.int m1), .val (.int m2), .val (.int m3), .val (.int q), .val (.ref b2), .val (.ref b4), .unset, .unset] [(.int (3 : Int32)), (.int (0 : Int32)), (.int (3 : Int32)), (.ref b2)]))
      refine own_go (fun t k => XS.icmpYes X10.here hx rfl (pc0 := 296) (pc' := 304) rfl (hb hby at_296) rfl (flt (by decide : ¬ ((3 : Int32) < (0 : Int32)))).2.2.2 (by decide) (by decide) k) ?_
      refine own_go (fun t k => XS.iload X10.here hx rfl (hb hby at_304) rfl  k) ?_
      refine own_iastore X10 hx hZ e10 V10 (j := (3 : Int32)) ⟨by decide, by decide⟩ 3 rfl (Nat.le_of_ble_eq_true rfl) (g := (mkF m 306 #[.val (.int p1), .val (.int p2), .val (.int p3), .val (.int p4), .val (.int p5), .val (.int p6), .val (.int (0 : Int32)), .val (.long la), .second, .val (.long lb), .second, .val (.long lc), .second, .val (.long ld), .second, .val (.long lb), .second, .val (.int x0), .val (.int x1), .val (.int x2), .val (.int x3), .val (.int m1), .val (.int m2), .val (.int m3), .val (.int q), .val (.ref b2), .val (.ref b4), .unset, .unset] [(.int q), (.int (3 : Int32)), (.ref b2)])) rfl rfl (hb hby at_306) (fun T11 h11 X11 e11 W11 V11 => ?_)
      replace V11 : Arv Z h11 b2 k2 .int (5 : Int32) [(.int q), (.int q), (.int q), (.int q), (.int (0 : Int32))] (.int (0 : Int32)) := V11
      have N11 := Fr.snoc X11 N10 (Nat.le_trans Z0 (Nat.le_of_eq g2.symm))
      refine own_go (fun t k => XS.aload X11.here hx rfl (hb hby at_307) rfl rfl  k) ?_
      refine own_go (fun t k => XS.iconst X11.here hx rfl (hb hby at_309) k) ?_
      show own_Run p e below Φ (T11.setTop (mkF m 310 #[.val (.int p1), .val (.int p2), .val (.int p3), .val (.int p4), .val (.int p5), .val (.int p6), .val (.int (0 : Int32)), .val (.long la), .second, .val (.long lb), .second, .val (.long lc), .second, .val (.long ld), .second, .val (.long lb), .second, .val (.int x0), .val (.int x1), .val (.int x2), .val (.int x3), .val (.int m1), .val (.int m2), .val (.int m3), .val (.int q), .val (.ref b2), .val (.ref b4), .unset, .unset] [(.int (4 : Int32)), (.ref b2)]))
      refine own_go (fun t k => XS.iload X11.here hx rfl (hb hby at_310) rfl  k) ?_
      refine own_iastore X11 hx hZ e11 V11 (j := (4 : Int32)) ⟨by decide, by decide⟩ 4 rfl (Nat.le_of_ble_eq_true rfl) (g := (mkF m 312 #[.val (.int p1), .val (.int p2), .val (.int p3), .val (.int p4), .val (.int p5), .val (.int p6), .val (.int (0 : Int32)), .val (.long la), .second, .val (.long lb), .second, .val (.long lc), .second, .val (.long ld), .second, .val (.long lb), .second, .val (.int x0), .val (.int x1), .val (.int x2), .val (.int x3), .val (.int m1), .val (.int m2), .val (.int m3), .val (.int q), .val (.ref b2), .val (.ref b4), .unset, .unset] [(.int q), (.int (4 : Int32)), (.ref b2)])) rfl rfl (hb hby at_312) (fun T12 h12 X12 e12 W12 V12 => ?_)
      replace V12 : Arv Z h12 b2 k2 .int (5 : Int32) [(.int q), (.int q), (.int q), (.int q), (.int q)] (.int (0 : Int32)) := V12
      have N12 := Fr.snoc X12 N11 (Nat.le_trans Z0 (Nat.le_of_eq g2.symm))
      refine own_go (fun t k => XS.aload X12.here hx rfl (hb hby at_313) rfl rfl  k) ?_
      refine own_go (fun t k => XS.iconst X12.here hx rfl (hb hby at_315) k) ?_
      refine own_go (fun t k => XS.iconst X12.here hx rfl (hb hby at_316) k) ?_
      show own_Run p e below Φ (T12.setTop (mkF m 317 #[.val (.int p1), .val (.int p2), .val (.int p3), .val (.int p4), .val (.int p5), .val (.int p6), .val (.int (0 : Int32)), .val (.long la), .second, .val (.long lb), .second, .val (.long lc), .second, .val (.long ld), .second, .val (.long lb), .second, .val (.int x0), .val (.int x1), .val (.int x2), .val (.int x3), .val (.int m1), .val (.int m2), .val (.int m3), .val (.int q), .val (.ref b2), .val (.ref b4), .unset, .unset] [(.int (1 : Int32)), (.int (0 : Int32)), (.ref b4)]))
      have F13 : Arv Z h12 b4 k4 .int (5 : Int32) [(.int (0 : Int32)), (.int (0 : Int32)), (.int (0 : Int32)), (.int (0 : Int32)), (.int (0 : Int32))] (.int (0 : Int32)) := (((((V4.other W8 (Ne.symm ne_b2_b4)).other W9 (Ne.symm ne_b2_b4)).other W10 (Ne.symm ne_b2_b4)).other W11 (Ne.symm ne_b2_b4)).other W12 (Ne.symm ne_b2_b4))
      refine own_iastore X12 hx hZ e12 F13 (j := (0 : Int32)) ⟨by decide, by decide⟩ 0 rfl (Nat.le_of_ble_eq_true rfl) (g := (mkF m 317 #[.val (.int p1), .val (.int p2), .val (.int p3), .val (.int p4), .val (.int p5), .val (.int p6), .val (.int (0 : Int32)), .val (.long la), .second, .val (.long lb), .second, .val (.long lc), .second, .val (.long ld), .second, .val (.long lb), .second, .val (.int x0), .val (.int x1), .val (.int x2), .val (.int x3), .val (.int m1), .val (.int m2), .val (.int m3), .val (.int q), .val (.ref b2), .val (.ref b4), .unset, .unset] [(.int (1 : Int32)), (.int (0 : Int32)), (.ref b4)])) rfl rfl (hb hby at_317) (fun T14 h14 X14 e14 W14 V14 => ?_)
      replace V14 : Arv Z h14 b4 k4 .int (5 : Int32) [(.int (1 : Int32)), (.int (0 : Int32)), (.int (0 : Int32)), (.int (0 : Int32)), (.int (0 : Int32))] (.int (0 : Int32)) := V14
      have N14 := Fr.snoc X14 N12 (Nat.le_trans F5 (Nat.le_of_eq g4.symm))
      refine own_go (fun t k => XS.aload X14.here hx rfl (hb hby at_318) rfl rfl  k) ?_
      refine own_go (fun t k => XS.iconst X14.here hx rfl (hb hby at_320) k) ?_
      refine own_go (fun t k => XS.iconst X14.here hx rfl (hb hby at_321) k) ?_
      refine own_iastore X14 hx hZ e14 V14 (j := (1 : Int32)) ⟨by decide, by decide⟩ 1 rfl (Nat.le_of_ble_eq_true rfl) (g := (mkF m 322 #[.val (.int p1), .val (.int p2), .val (.int p3), .val (.int p4), .val (.int p5), .val (.int p6), .val (.int (0 : Int32)), .val (.long la), .second, .val (.long lb), .second, .val (.long lc), .second, .val (.long ld), .second, .val (.long lb), .second, .val (.int x0), .val (.int x1), .val (.int x2), .val (.int x3), .val (.int m1), .val (.int m2), .val (.int m3), .val (.int q), .val (.ref b2), .val (.ref b4), .unset, .unset] [(.int (1 : Int32)), (.int (1 : Int32)), (.ref b4)])) rfl rfl (hb hby at_322) (fun T15 h15 X15 e15 W15 V15 => ?_)
      replace V15 : Arv Z h15 b4 k4 .int (5 : Int32) [(.int (1 : Int32)), (.int (1 : Int32)), (.int (0 : Int32)), (.int (0 : Int32)), (.int (0 : Int32))] (.int (0 : Int32)) := V15
      have N15 := Fr.snoc X15 N14 (Nat.le_trans F5 (Nat.le_of_eq g4.symm))
      show own_Run p e below Φ (T15.setTop (mkF m 323 #[.val (.int p1), .val (.int p2), .val (.int p3), .val (.int p4), .val (.int p5), .val (.int p6), .val (.int (0 : Int32)), .val (.long la), .second, .val (.long lb), .second, .val (.long lc), .second, .val (.long ld), .second, .val (.long lb), .second, .val (.int x0), .val (.int x1), .val (.int x2), .val (.int x3), .val (.int m1), .val (.int m2), .val (.int m3), .val (.int q), .val (.ref b2), .val (.ref b4), .unset, .unset] []))
      refine own_go (fun t k => XS.aload X15.here hx rfl (hb hby at_323) rfl rfl  k) ?_
      refine own_go (fun t k => XS.iconst X15.here hx rfl (hb hby at_325) k) ?_
      refine own_go (fun t k => XS.iconst X15.here hx rfl (hb hby at_326) k) ?_
      refine own_iastore X15 hx hZ e15 V15 (j := (2 : Int32)) ⟨by decide, by decide⟩ 2 rfl (Nat.le_of_ble_eq_true rfl) (g := (mkF m 327 #[.val (.int p1), .val (.int p2), .val (.int p3), .val (.int p4), .val (.int p5), .val (.int p6), .val (.int (0 : Int32)), .val (.long la), .second, .val (.long lb), .second, .val (.long lc), .second, .val (.long ld), .second, .val (.long lb), .second, .val (.int x0), .val (.int x1), .val (.int x2), .val (.int x3), .val (.int m1), .val (.int m2), .val (.int m3), .val (.int q), .val (.ref b2), .val (.ref b4), .unset, .unset] [(.int (1 : Int32)), (.int (2 : Int32)), (.ref b4)])) rfl rfl (hb hby at_327) (fun T16 h16 X16 e16 W16 V16 => ?_)
      replace V16 : Arv Z h16 b4 k4 .int (5 : Int32) [(.int (1 : Int32)), (.int (1 : Int32)), (.int (1 : Int32)), (.int (0 : Int32)), (.int (0 : Int32))] (.int (0 : Int32)) := V16
      have N16 := Fr.snoc X16 N15 (Nat.le_trans F5 (Nat.le_of_eq g4.symm))
      refine own_go (fun t k => XS.aload X16.here hx rfl (hb hby at_328) rfl rfl  k) ?_
      show own_Run p e below Φ (T16.setTop (mkF m 330 #[.val (.int p1), .val (.int p2), .val (.int p3), .val (.int p4), .val (.int p5), .val (.int p6), .val (.int (0 : Int32)), .val (.long la), .second, .val (.long lb), .second, .val (.long lc), .second, .val (.long ld), .second, .val (.long lb), .second, .val (.int x0), .val (.int x1), .val (.int x2), .val (.int x3), .val (.int m1), .val (.int m2), .val (.int m3), .val (.int q), .val (.ref b2), .val (.ref b4), .unset, .unset] [(.ref b4)]))
      refine own_go (fun t k => XS.iconst X16.here hx rfl (hb hby at_330) k) ?_
      refine own_go (fun t k => XS.iconst X16.here hx rfl (hb hby at_331) k) ?_
      refine own_iastore X16 hx hZ e16 V16 (j := (3 : Int32)) ⟨by decide, by decide⟩ 3 rfl (Nat.le_of_ble_eq_true rfl) (g := (mkF m 332 #[.val (.int p1), .val (.int p2), .val (.int p3), .val (.int p4), .val (.int p5), .val (.int p6), .val (.int (0 : Int32)), .val (.long la), .second, .val (.long lb), .second, .val (.long lc), .second, .val (.long ld), .second, .val (.long lb), .second, .val (.int x0), .val (.int x1), .val (.int x2), .val (.int x3), .val (.int m1), .val (.int m2), .val (.int m3), .val (.int q), .val (.ref b2), .val (.ref b4), .unset, .unset] [(.int (1 : Int32)), (.int (3 : Int32)), (.ref b4)])) rfl rfl (hb hby at_332) (fun T17 h17 X17 e17 W17 V17 => ?_)
      replace V17 : Arv Z h17 b4 k4 .int (5 : Int32) [(.int (1 : Int32)), (.int (1 : Int32)), (.int (1 : Int32)), (.int (1 : Int32)), (.int (0 : Int32))] (.int (0 : Int32)) := V17
      have N17 := Fr.snoc X17 N16 (Nat.le_trans F5 (Nat.le_of_eq g4.symm))
      refine own_go (fun t k => XS.aload X17.here hx rfl (hb hby at_333) rfl rfl  k) ?_
      refine own_go (fun t k => XS.iconst X17.here hx rfl (hb hby at_335) k) ?_
      show own_Run p e below Φ (T17.setTop (mkF m 336 #[.val (.int p1), .val (.int p2), .val (.int p3), .val (.int p4), .val (.int p5), .val (.int p6), .val (.int (0 : Int32)), .val (.long la), .second, .val (.long lb), .second, .val (.long lc), .second, .val (.long ld), .second, .val (.long lb), .second, .val (.int x0), .val (.int x1), .val (.int x2), .val (.int x3), .val (.int m1), .val (.int m2), .val (.int m3), .val (.int q), .val (.ref b2), .val (.ref b4), .unset, .unset] [(.int (4 : Int32)), (.ref b4)]))
      refine own_go (fun t k => XS.iconst X17.here hx rfl (hb hby at_336) k) ?_
      refine own_iastore X17 hx hZ e17 V17 (j := (4 : Int32)) ⟨by decide, by decide⟩ 4 rfl (Nat.le_of_ble_eq_true rfl) (g := (mkF m 337 #[.val (.int p1), .val (.int p2), .val (.int p3), .val (.int p4), .val (.int p5), .val (.int p6), .val (.int (0 : Int32)), .val (.long la), .second, .val (.long lb), .second, .val (.long lc), .second, .val (.long ld), .second, .val (.long lb), .second, .val (.int x0), .val (.int x1), .val (.int x2), .val (.int x3), .val (.int m1), .val (.int m2), .val (.int m3), .val (.int q), .val (.ref b2), .val (.ref b4), .unset, .unset] [(.int (1 : Int32)), (.int (4 : Int32)), (.ref b4)])) rfl rfl (hb hby at_337) (fun T18 h18 X18 e18 W18 V18 => ?_)
      replace V18 : Arv Z h18 b4 k4 .int (5 : Int32) [(.int (1 : Int32)), (.int (1 : Int32)), (.int (1 : Int32)), (.int (1 : Int32)), (.int (1 : Int32))] (.int (0 : Int32)) := V18
      have N18 := Fr.snoc X18 N17 (Nat.le_trans F5 (Nat.le_of_eq g4.symm))
      have F20 : n0 ≤ h18.size := (Nat.le_trans (Nat.le_trans (Nat.le_trans (Nat.le_trans (Nat.le_trans (Nat.le_trans (Nat.le_trans (Nat.le_trans (Nat.le_trans (Nat.le_trans (Nat.le_trans F5 E4.1) (Keep.of_wr W8).1) (Keep.of_wr W9).1) (Keep.of_wr W10).1) (Keep.of_wr W11).1) (Keep.of_wr W12).1) (Keep.of_wr W14).1) (Keep.of_wr W15).1) (Keep.of_wr W16).1) (Keep.of_wr W17).1) (Keep.of_wr W18).1)
      have F21 : Arv Z h18 b2 k2 .int (5 : Int32) [(.int q), (.int q), (.int q), (.int q), (.int q)] (.int (0 : Int32)) := (((((V12.other W14 ne_b2_b4).other W15 ne_b2_b4).other W16 ne_b2_b4).other W17 ne_b2_b4).other W18 ne_b2_b4)
      obtain ⟨T19, h19, X19, e19, E19, A19, D19, -, st19⟩ := newO X18 hx hZ hown (hw _ (List.mem_of_getElem? (i := 2) rfl)) (hw _ (List.mem_of_getElem? (i := 3) rfl)) (hw _ (List.mem_of_getElem? (i := 4) rfl)) e18 (g := (mkF m 338 #[.val (.int p1), .val (.int p2), .val (.int p3), .val (.int p4), .val (.int p5), .val (.int p6), .val (.int (0 : Int32)), .val (.long la), .second, .val (.long lb), .second, .val (.long lc), .second, .val (.long ld), .second, .val (.long lb), .second, .val (.int x0), .val (.int x1), .val (.int x2), .val (.int x3), .val (.int m1), .val (.int m2), .val (.int m3), .val (.int q), .val (.ref b2), .val (.ref b4), .unset, .unset] [])) rfl (hb hby at_338) (by decide) (by decide)
      refine own_go st19 ?_
      obtain ⟨b19, g19⟩ : ∃ z, z = h18.size := ⟨_, rfl⟩
      rw [← g19] at A19 D19 ⊢
      have ne_b2_b19 : b2 ≠ b19 := Nat.ne_of_lt (Nat.lt_of_lt_of_le F21.lt (Nat.le_of_eq g19.symm))
      have ne_b4_b19 : b4 ≠ b19 := Nat.ne_of_lt (Nat.lt_of_lt_of_le V18.lt (Nat.le_of_eq g19.symm))
      have G22 : Fld Z h19 b19 "com/example/glossyn/glossyn/index/Postings" "documents" "[I" .null := D19 (Or.inr (hw _ (List.mem_of_getElem? (i := 12) rfl))) (ty := (.array .int)) (by decide)
      have G23 : Fld Z h19 b19 "com/example/glossyn/glossyn/index/Postings" "frequencies" "[I" .null := D19 (Or.inr (hw _ (List.mem_of_getElem? (i := 14) rfl))) (ty := (.array .int)) (by decide)
      have G24 : Fld Z h19 b19 "com/example/glossyn/glossyn/index/Postings" "size" "I" (.int (0 : Int32)) := D19 (Or.inr (hw _ (List.mem_of_getElem? (i := 16) rfl))) (ty := .int) (by decide)
      refine own_go (fun t k => XS.dup X19.here hx rfl (hb hby at_341) rfl rfl k) ?_
      refine own_go (fun t k => XS.aload X19.here hx rfl (hb hby at_342) rfl rfl  k) ?_
      show own_Run p e below Φ (T19.setTop (mkF m 344 #[.val (.int p1), .val (.int p2), .val (.int p3), .val (.int p4), .val (.int p5), .val (.int p6), .val (.int (0 : Int32)), .val (.long la), .second, .val (.long lb), .second, .val (.long lc), .second, .val (.long ld), .second, .val (.long lb), .second, .val (.int x0), .val (.int x1), .val (.int x2), .val (.int x3), .val (.int m1), .val (.int m2), .val (.int m3), .val (.int q), .val (.ref b2), .val (.ref b4), .unset, .unset] [(.ref b2), (.ref b19), (.ref b19)]))
      refine own_go (fun t k => XS.aload X19.here hx rfl (hb hby at_344) rfl rfl  k) ?_
      refine own_go (fun t k => XS.iload X19.here hx rfl (hb hby at_346) rfl  k) ?_
      refine own_callI X19 hx hZ (y := (⟨"com/example/glossyn/glossyn/index/Postings", "<init>", "([I[II)V"⟩ : MethodName)) (W := 1) (a := b19) (argsL := [(.ref b2), (.ref b4), (.int (0 : Int32))]) (rest := [(.ref b19)]) rfl hown (hw _ (List.mem_of_getElem? (i := 5) rfl)) (hw _ (List.mem_of_getElem? (i := 6) rfl)) (hw _ (List.mem_of_getElem? (i := 7) rfl)) (by decide) (own_bk (rm_ct l Z a0 hw b19 b2 b4 (0 : Int32) h19 n0 A19 G22 G23 G24 (Nat.le_trans F20 (Nat.le_of_eq g19.symm))) hZ (hw _ (List.mem_of_getElem? (i := 7) rfl)) (hw _ (List.mem_of_getElem? (i := 4) rfl)) (by decide) (by decide)) e19 (g := (mkF m 348 #[.val (.int p1), .val (.int p2), .val (.int p3), .val (.int p4), .val (.int p5), .val (.int p6), .val (.int (0 : Int32)), .val (.long la), .second, .val (.long lb), .second, .val (.long lc), .second, .val (.long ld), .second, .val (.long lb), .second, .val (.int x0), .val (.int x1), .val (.int x2), .val (.int x3), .val (.int m1), .val (.int m2), .val (.int m3), .val (.int q), .val (.ref b2), .val (.ref b4), .unset, .unset] [(.int (0 : Int32)), (.ref b4), (.ref b2), (.ref b19), (.ref b19)])) rfl (by rw [hml]; rfl) (lenOf pd_0 rfl) rfl (by show 2 * 0 + _ ≤ _; exact Nat.le_of_eq rfl) (hb hby at_348) (by decide) (by decide) (fun v25 T25 h25 L25 X25 e25 q25 => ?_)
      obtain ⟨rfl, M25, K25, P25_0, P25_1⟩ := q25
      have N25 := Fr.app N18 M25
      refine own_go (fun t k => XS.astore X25.here hx rfl (hb hby at_351) rfl rfl (l' := #[.val (.int p1), .val (.int p2), .val (.int p3), .val (.int p4), .val (.int p5), .val (.int p6), .val (.int (0 : Int32)), .val (.long la), .second, .val (.long lb), .second, .val (.long lc), .second, .val (.long ld), .second, .val (.long lb), .second, .val (.int x0), .val (.int x1), .val (.int x2), .val (.int x3), .val (.int m1), .val (.int m2), .val (.int m3), .val (.int q), .val (.ref b2), .val (.ref b4), .val (.ref b19), .unset]) rfl k) ?_
      show own_Run p e below Φ (T25.setTop (mkF m 353 #[.val (.int p1), .val (.int p2), .val (.int p3), .val (.int p4), .val (.int p5), .val (.int p6), .val (.int (0 : Int32)), .val (.long la), .second, .val (.long lb), .second, .val (.long lc), .second, .val (.long ld), .second, .val (.long lb), .second, .val (.int x0), .val (.int x1), .val (.int x2), .val (.int x3), .val (.int m1), .val (.int m2), .val (.int m3), .val (.int q), .val (.ref b2), .val (.ref b4), .val (.ref b19), .unset] []))
      have J409_26 : ∀ (y : Int32), (own_y0  q = y) → own_Run p e below Φ (T25.setTop (mkF m 409 #[.val (.int p1), .val (.int p2), .val (.int p3), .val (.int p4), .val (.int p5), .val (.int p6), .val (.int (0 : Int32)), .val (.long la), .second, .val (.long lb), .second, .val (.long lc), .second, .val (.long ld), .second, .val (.long lb), .second, .val (.int x0), .val (.int x1), .val (.int x2), .val (.int x3), .val (.int m1), .val (.int m2), .val (.int m3), .val (.int q), .val (.ref b2), .val (.ref b4), .val (.ref b19), .unset] [(.int y)])) := by
        intro y hy
        show own_Run p e below Φ (T25.setTop (mkF m 409 #[.val (.int p1), .val (.int p2), .val (.int p3), .val (.int p4), .val (.int p5), .val (.int p6), .val (.int (0 : Int32)), .val (.long la), .second, .val (.long lb), .second, .val (.long lc), .second, .val (.long ld), .second, .val (.long lb), .second, .val (.int x0), .val (.int x1), .val (.int x2), .val (.int x3), .val (.int m1), .val (.int m2), .val (.int m3), .val (.int q), .val (.ref b2), .val (.ref b4), .val (.ref b19), .unset] [(.int y)]))
        refine own_go (fun t k => XS.istore X25.here hx rfl (hb hby at_409) rfl (l' := #[.val (.int p1), .val (.int p2), .val (.int p3), .val (.int p4), .val (.int p5), .val (.int p6), .val (.int (0 : Int32)), .val (.long la), .second, .val (.long lb), .second, .val (.long lc), .second, .val (.long ld), .second, .val (.long lb), .second, .val (.int x0), .val (.int x1), .val (.int x2), .val (.int x3), .val (.int m1), .val (.int m2), .val (.int m3), .val (.int q), .val (.ref b2), .val (.ref b4), .val (.ref b19), .val (.int y)]) rfl k) ?_
        refine own_go (fun t k => XS.aload X25.here hx rfl (hb hby at_411) rfl rfl  k) ?_
        refine own_go (fun t k => XS.iload X25.here hx rfl (hb hby at_413) rfl  k) ?_
        have F27 : Arv Z h25 b2 k2 .int (5 : Int32) [(.int q), (.int q), (.int q), (.int q), (.int q)] (.int (0 : Int32)) := ((F21.ext E19).keep K25 (ninS ne_b2_b19 nin0))
        have F29 : Exa Z h25 b19 "com/example/glossyn/glossyn/index/Postings" := (A19.keep K25)
        refine own_callV X25 hx hZ (y := (⟨"com/example/glossyn/glossyn/index/Postings", "contains", "(I)Z"⟩ : MethodName)) (z := (⟨"com/example/glossyn/glossyn/index/Postings", "contains", "(I)Z"⟩ : MethodName)) (W := 0) (a := b19) (argsL := [(.int q)]) (rest := []) hown (hw _ (List.mem_of_getElem? (i := 17) rfl)) (hw _ (List.mem_of_getElem? (i := 18) rfl)) (notFace_of_selects (args := #[]) (mvT hZ (hw _ (List.mem_of_getElem? (i := 20) rfl)))) (hw _ (List.mem_of_getElem? (i := 20) rfl)) (hw _ (List.mem_of_getElem? (i := 19) rfl)) (by decide) (own_bk (rm_cn0 l Z a0 hw b19 q b2 k2 q q q q q h25 n0 P25_0 P25_1 F27) hZ (hw _ (List.mem_of_getElem? (i := 21) rfl)) (hw _ (List.mem_of_getElem? (i := 4) rfl)) (by decide) (by decide)) e25 F29 (g := (mkF m 415 #[.val (.int p1), .val (.int p2), .val (.int p3), .val (.int p4), .val (.int p5), .val (.int p6), .val (.int (0 : Int32)), .val (.long la), .second, .val (.long lb), .second, .val (.long lc), .second, .val (.long ld), .second, .val (.long lb), .second, .val (.int x0), .val (.int x1), .val (.int x2), .val (.int x3), .val (.int m1), .val (.int m2), .val (.int m3), .val (.int q), .val (.ref b2), .val (.ref b4), .val (.ref b19), .val (.int y)] [(.int q), (.ref b19)])) rfl (by rw [hml]; rfl) (lenOf pd_2 rfl) rfl (by show 2 * 0 + _ ≤ _; exact Nat.le_of_eq rfl) (hb hby at_415) (by decide) (by decide) (fun v28 T28 h28 L28 X28 e28 q28 => ?_)
        obtain ⟨rfl, M28, s28⟩ := q28
        replace e28 : T28.heap = h25 := e28.trans s28
        have N28 := Fr.app N25 M28
        refine own_go (fun t k => XS.iload X28.here hx rfl (hb hby at_418) rfl  k) ?_
        show own_Run p e below Φ (T28.setTop (mkF m 420 #[.val (.int p1), .val (.int p2), .val (.int p3), .val (.int p4), .val (.int p5), .val (.int p6), .val (.int (0 : Int32)), .val (.long la), .second, .val (.long lb), .second, .val (.long lc), .second, .val (.long ld), .second, .val (.long lb), .second, .val (.int x0), .val (.int x1), .val (.int x2), .val (.int x3), .val (.int m1), .val (.int m2), .val (.int m3), .val (.int q), .val (.ref b2), .val (.ref b4), .val (.ref b19), .val (.int y)] [(.int y), (.int (own_y0  q))]))
        have hc420 : (own_y0  q) = y := hy
        refine own_go (fun t k => XS.icmpNo X28.here hx rfl (hb hby at_420) rfl (teq hc420).2 k) ?_
        refine own_go (fun t k => XS.iconst X28.here hx rfl (hb hby at_423) k) ?_
        refine own_go (fun t k => XS.goto X28.here hx rfl (pc0 := 424) (pc' := 428) rfl (hb hby at_424) (by decide) (by decide) k) ?_
        subst hΦ
        exact own_retN X28 hx (t := .boolean) Bd.returns (by simp) hlk (hb hby at_428) e28 ⟨rfl, N28⟩ (by decide) (by decide)
      show own_Run p e below Φ (T25.setTop (mkF m 353 #[.val (.int p1), .val (.int p2), .val (.int p3), .val (.int p4), .val (.int p5), .val (.int p6), .val (.int (0 : Int32)), .val (.long la), .second, .val (.long lb), .second, .val (.long lc), .second, .val (.long ld), .second, .val (.long lb), .second, .val (.int x0), .val (.int x1), .val (.int x2), .val (.int x3), .val (.int m1), .val (.int m2), .val (.int m3), .val (.int q), .val (.ref b2), .val (.ref b4), .val (.ref b19), .unset] []))
      refine own_go (fun t k => XS.iload X25.here hx rfl (hb hby at_353) rfl  k) ?_
      refine own_go (fun t k => XS.ifYes X25.here hx rfl (pc0 := 355) (pc' := 365) rfl (hb hby at_355) rfl ((if0 _ _).trans (flt (by decide : ¬ ((0 : Int32) < (0 : Int32)))).2.2.2) (by decide) (by decide) k) ?_
      show own_Run p e below Φ (T25.setTop (mkF m 365 #[.val (.int p1), .val (.int p2), .val (.int p3), .val (.int p4), .val (.int p5), .val (.int p6), .val (.int (0 : Int32)), .val (.long la), .second, .val (.long lb), .second, .val (.long lc), .second, .val (.long ld), .second, .val (.long lb), .second, .val (.int x0), .val (.int x1), .val (.int x2), .val (.int x3), .val (.int m1), .val (.int m2), .val (.int m3), .val (.int q), .val (.ref b2), .val (.ref b4), .val (.ref b19), .unset] []))
      refine own_go (fun t k => XS.iload X25.here hx rfl (hb hby at_365) rfl  k) ?_
      refine own_go (fun t k => XS.iconst X25.here hx rfl (hb hby at_367) k) ?_
      refine own_go (fun t k => XS.icmpYes X25.here hx rfl (pc0 := 368) (pc' := 378) rfl (hb hby at_368) rfl (flt (by decide : ¬ ((1 : Int32) < (0 : Int32)))).2.2.2 (by decide) (by decide) k) ?_
      refine own_go (fun t k => XS.iload X25.here hx rfl (hb hby at_378) rfl  k) ?_
      refine own_go (fun t k => XS.iconst X25.here hx rfl (hb hby at_380) k) ?_
      show own_Run p e below Φ (T25.setTop (mkF m 381 #[.val (.int p1), .val (.int p2), .val (.int p3), .val (.int p4), .val (.int p5), .val (.int p6), .val (.int (0 : Int32)), .val (.long la), .second, .val (.long lb), .second, .val (.long lc), .second, .val (.long ld), .second, .val (.long lb), .second, .val (.int x0), .val (.int x1), .val (.int x2), .val (.int x3), .val (.int m1), .val (.int m2), .val (.int m3), .val (.int q), .val (.ref b2), .val (.ref b4), .val (.ref b19), .unset] [(.int (2 : Int32)), (.int (0 : Int32))]))
      refine own_go (fun t k => XS.icmpYes X25.here hx rfl (pc0 := 381) (pc' := 391) rfl (hb hby at_381) rfl (flt (by decide : ¬ ((2 : Int32) < (0 : Int32)))).2.2.2 (by decide) (by decide) k) ?_
      refine own_go (fun t k => XS.iload X25.here hx rfl (hb hby at_391) rfl  k) ?_
      refine own_go (fun t k => XS.iconst X25.here hx rfl (hb hby at_393) k) ?_
      refine own_go (fun t k => XS.icmpYes X25.here hx rfl (pc0 := 394) (pc' := 408) rfl (hb hby at_394) rfl (flt (by decide : ¬ ((3 : Int32) < (0 : Int32)))).2.2.2 (by decide) (by decide) k) ?_
      refine own_go (fun t k => XS.iconst X25.here hx rfl (hb hby at_408) k) ?_
      exact J409_26 (0 : Int32) rfl
    show own_Run p e below Φ (s₁.setTop (mkF m 112 #[.val (.int p1), .val (.int p2), .val (.int p3), .val (.int p4), .val (.int p5), .val (.int p6), .val (.int (0 : Int32)), .val (.long la), .second, .val (.long lb), .second, .val (.long lc), .second, .val (.long ld), .second, .val (.long lb), .second, .val (.int x0), .val (.int x1), .val (.int x2), .val (.int x3), .unset, .unset, .unset, .unset, .unset, .unset, .unset, .unset] []))
    refine own_go (fun t k => XS.iload X0.here hx rfl (hb hby at_112) rfl  k) ?_
    show own_Run p e below Φ (s₁.setTop (mkF m 114 #[.val (.int p1), .val (.int p2), .val (.int p3), .val (.int p4), .val (.int p5), .val (.int p6), .val (.int (0 : Int32)), .val (.long la), .second, .val (.long lb), .second, .val (.long lc), .second, .val (.long ld), .second, .val (.long lb), .second, .val (.int x0), .val (.int x1), .val (.int x2), .val (.int x3), .unset, .unset, .unset, .unset, .unset, .unset, .unset, .unset] [(.int p5)]))
    refine own_go (fun t k => XS.bipush X0.here hx rfl (hb hby at_114) k) ?_
    refine own_go (fun t k => XS.iushr X0.here hx rfl (hb hby at_116) rfl k) ?_
    refine own_go (fun t k => XS.iconst X0.here hx rfl (hb hby at_117) k) ?_
    refine own_go (fun t k => XS.iand X0.here hx rfl (hb hby at_118) rfl k) ?_
    refine own_go (fun t k => XS.istore X0.here hx rfl (hb hby at_119) rfl (l' := #[.val (.int p1), .val (.int p2), .val (.int p3), .val (.int p4), .val (.int p5), .val (.int p6), .val (.int (0 : Int32)), .val (.long la), .second, .val (.long lb), .second, .val (.long lc), .second, .val (.long ld), .second, .val (.long lb), .second, .val (.int x0), .val (.int x1), .val (.int x2), .val (.int x3), .val (.int (((p5.toUInt32 >>> ((11 : Int32) &&& 31).toUInt32).toInt32) &&& (3 : Int32))), .unset, .unset, .unset, .unset, .unset, .unset, .unset]) rfl k) ?_
    show own_Run p e below Φ (s₁.setTop (mkF m 121 #[.val (.int p1), .val (.int p2), .val (.int p3), .val (.int p4), .val (.int p5), .val (.int p6), .val (.int (0 : Int32)), .val (.long la), .second, .val (.long lb), .second, .val (.long lc), .second, .val (.long ld), .second, .val (.long lb), .second, .val (.int x0), .val (.int x1), .val (.int x2), .val (.int x3), .val (.int (((p5.toUInt32 >>> ((11 : Int32) &&& 31).toUInt32).toInt32) &&& (3 : Int32))), .unset, .unset, .unset, .unset, .unset, .unset, .unset] []))
    have J141_30 : ∀ (kk : Int32), own_Run p e below Φ (s₁.setTop (mkF m 141 #[.val (.int p1), .val (.int p2), .val (.int p3), .val (.int p4), .val (.int p5), .val (.int p6), .val (.int (0 : Int32)), .val (.long la), .second, .val (.long lb), .second, .val (.long lc), .second, .val (.long ld), .second, .val (.long lb), .second, .val (.int x0), .val (.int x1), .val (.int x2), .val (.int x3), .val (.int (((p5.toUInt32 >>> ((11 : Int32) &&& 31).toUInt32).toInt32) &&& (3 : Int32))), .unset, .unset, .unset, .unset, .unset, .unset, .unset] [(.int kk)])) := by
      intro kk
      show own_Run p e below Φ (s₁.setTop (mkF m 141 #[.val (.int p1), .val (.int p2), .val (.int p3), .val (.int p4), .val (.int p5), .val (.int p6), .val (.int (0 : Int32)), .val (.long la), .second, .val (.long lb), .second, .val (.long lc), .second, .val (.long ld), .second, .val (.long lb), .second, .val (.int x0), .val (.int x1), .val (.int x2), .val (.int x3), .val (.int (((p5.toUInt32 >>> ((11 : Int32) &&& 31).toUInt32).toInt32) &&& (3 : Int32))), .unset, .unset, .unset, .unset, .unset, .unset, .unset] [(.int kk)]))
      refine own_go (fun t k => XS.istore X0.here hx rfl (hb hby at_141) rfl (l' := #[.val (.int p1), .val (.int p2), .val (.int p3), .val (.int p4), .val (.int p5), .val (.int p6), .val (.int (0 : Int32)), .val (.long la), .second, .val (.long lb), .second, .val (.long lc), .second, .val (.long ld), .second, .val (.long lb), .second, .val (.int x0), .val (.int x1), .val (.int x2), .val (.int x3), .val (.int (((p5.toUInt32 >>> ((11 : Int32) &&& 31).toUInt32).toInt32) &&& (3 : Int32))), .val (.int kk), .unset, .unset, .unset, .unset, .unset, .unset]) rfl k) ?_
      show own_Run p e below Φ (s₁.setTop (mkF m 143 #[.val (.int p1), .val (.int p2), .val (.int p3), .val (.int p4), .val (.int p5), .val (.int p6), .val (.int (0 : Int32)), .val (.long la), .second, .val (.long lb), .second, .val (.long lc), .second, .val (.long ld), .second, .val (.long lb), .second, .val (.int x0), .val (.int x1), .val (.int x2), .val (.int x3), .val (.int (((p5.toUInt32 >>> ((11 : Int32) &&& 31).toUInt32).toInt32) &&& (3 : Int32))), .val (.int kk), .unset, .unset, .unset, .unset, .unset, .unset] []))
      have J177_31 : ∀ (pk : Int32), own_Run p e below Φ (s₁.setTop (mkF m 177 #[.val (.int p1), .val (.int p2), .val (.int p3), .val (.int p4), .val (.int p5), .val (.int p6), .val (.int (0 : Int32)), .val (.long la), .second, .val (.long lb), .second, .val (.long lc), .second, .val (.long ld), .second, .val (.long lb), .second, .val (.int x0), .val (.int x1), .val (.int x2), .val (.int x3), .val (.int (((p5.toUInt32 >>> ((11 : Int32) &&& 31).toUInt32).toInt32) &&& (3 : Int32))), .val (.int kk), .unset, .unset, .unset, .unset, .unset, .unset] [(.int pk)])) := by
        intro pk
        show own_Run p e below Φ (s₁.setTop (mkF m 177 #[.val (.int p1), .val (.int p2), .val (.int p3), .val (.int p4), .val (.int p5), .val (.int p6), .val (.int (0 : Int32)), .val (.long la), .second, .val (.long lb), .second, .val (.long lc), .second, .val (.long ld), .second, .val (.long lb), .second, .val (.int x0), .val (.int x1), .val (.int x2), .val (.int x3), .val (.int (((p5.toUInt32 >>> ((11 : Int32) &&& 31).toUInt32).toInt32) &&& (3 : Int32))), .val (.int kk), .unset, .unset, .unset, .unset, .unset, .unset] [(.int pk)]))
        refine own_go (fun t k => XS.istore X0.here hx rfl (hb hby at_177) rfl (l' := #[.val (.int p1), .val (.int p2), .val (.int p3), .val (.int p4), .val (.int p5), .val (.int p6), .val (.int (0 : Int32)), .val (.long la), .second, .val (.long lb), .second, .val (.long lc), .second, .val (.long ld), .second, .val (.long lb), .second, .val (.int x0), .val (.int x1), .val (.int x2), .val (.int x3), .val (.int (((p5.toUInt32 >>> ((11 : Int32) &&& 31).toUInt32).toInt32) &&& (3 : Int32))), .val (.int kk), .val (.int pk), .unset, .unset, .unset, .unset, .unset]) rfl k) ?_
        refine own_go (fun t k => XS.iload X0.here hx rfl (hb hby at_179) rfl  k) ?_
        refine own_go (fun t k => XS.ifYes X0.here hx rfl (pc0 := 181) (pc' := 189) rfl (hb hby at_181) rfl ((if0 _ _).trans (teq (rfl : (0 : Int32) = (0 : Int32))).1) (by decide) (by decide) k) ?_
        refine own_go (fun t k => XS.iload X0.here hx rfl (hb hby at_189) rfl  k) ?_
        refine own_go (fun t k => XS.istore X0.here hx rfl (hb hby at_191) rfl (l' := #[.val (.int p1), .val (.int p2), .val (.int p3), .val (.int p4), .val (.int p5), .val (.int p6), .val (.int (0 : Int32)), .val (.long la), .second, .val (.long lb), .second, .val (.long lc), .second, .val (.long ld), .second, .val (.long lb), .second, .val (.int x0), .val (.int x1), .val (.int x2), .val (.int x3), .val (.int (((p5.toUInt32 >>> ((11 : Int32) &&& 31).toUInt32).toInt32) &&& (3 : Int32))), .val (.int kk), .val (.int pk), .val (.int p6), .unset, .unset, .unset, .unset]) rfl k) ?_
        show own_Run p e below Φ (s₁.setTop (mkF m 193 #[.val (.int p1), .val (.int p2), .val (.int p3), .val (.int p4), .val (.int p5), .val (.int p6), .val (.int (0 : Int32)), .val (.long la), .second, .val (.long lb), .second, .val (.long lc), .second, .val (.long ld), .second, .val (.long lb), .second, .val (.int x0), .val (.int x1), .val (.int x2), .val (.int x3), .val (.int (((p5.toUInt32 >>> ((11 : Int32) &&& 31).toUInt32).toInt32) &&& (3 : Int32))), .val (.int kk), .val (.int pk), .val (.int p6), .unset, .unset, .unset, .unset] []))
        refine own_go (fun t k => XS.goto X0.here hx rfl (pc0 := 193) (pc' := 230) rfl (hb hby at_193) (by decide) (by decide) k) ?_
        exact J230_1 p6 (((p5.toUInt32 >>> ((11 : Int32) &&& 31).toUInt32).toInt32) &&& (3 : Int32)) kk pk
      show own_Run p e below Φ (s₁.setTop (mkF m 143 #[.val (.int p1), .val (.int p2), .val (.int p3), .val (.int p4), .val (.int p5), .val (.int p6), .val (.int (0 : Int32)), .val (.long la), .second, .val (.long lb), .second, .val (.long lc), .second, .val (.long ld), .second, .val (.long lb), .second, .val (.int x0), .val (.int x1), .val (.int x2), .val (.int x3), .val (.int (((p5.toUInt32 >>> ((11 : Int32) &&& 31).toUInt32).toInt32) &&& (3 : Int32))), .val (.int kk), .unset, .unset, .unset, .unset, .unset, .unset] []))
      refine own_go (fun t k => XS.iload X0.here hx rfl (hb hby at_143) rfl  k) ?_
      by_cases hc145 : kk = (0 : Int32)
      · refine own_go (fun t k => XS.ifNo X0.here hx rfl (hb hby at_145) rfl ((if0 _ _).trans (teq hc145).2) k) ?_
        refine own_go (fun t k => XS.iload X0.here hx rfl (hb hby at_148) rfl  k) ?_
        refine own_go (fun t k => XS.goto X0.here hx rfl (pc0 := 150) (pc' := 177) rfl (hb hby at_150) (by decide) (by decide) k) ?_
        exact J177_31 x0
      · refine own_go (fun t k => XS.ifYes X0.here hx rfl (pc0 := 145) (pc' := 153) rfl (hb hby at_145) rfl ((if0 _ _).trans (feq hc145).2) (by decide) (by decide) k) ?_
        refine own_go (fun t k => XS.iload X0.here hx rfl (hb hby at_153) rfl  k) ?_
        show own_Run p e below Φ (s₁.setTop (mkF m 155 #[.val (.int p1), .val (.int p2), .val (.int p3), .val (.int p4), .val (.int p5), .val (.int p6), .val (.int (0 : Int32)), .val (.long la), .second, .val (.long lb), .second, .val (.long lc), .second, .val (.long ld), .second, .val (.long lb), .second, .val (.int x0), .val (.int x1), .val (.int x2), .val (.int x3), .val (.int (((p5.toUInt32 >>> ((11 : Int32) &&& 31).toUInt32).toInt32) &&& (3 : Int32))), .val (.int kk), .unset, .unset, .unset, .unset, .unset, .unset] [(.int kk)]))
        refine own_go (fun t k => XS.iconst X0.here hx rfl (hb hby at_155) k) ?_
        by_cases hc156 : kk = (1 : Int32)
        · refine own_go (fun t k => XS.icmpNo X0.here hx rfl (hb hby at_156) rfl (teq hc156).2 k) ?_
          refine own_go (fun t k => XS.iload X0.here hx rfl (hb hby at_159) rfl  k) ?_
          refine own_go (fun t k => XS.goto X0.here hx rfl (pc0 := 161) (pc' := 177) rfl (hb hby at_161) (by decide) (by decide) k) ?_
          exact J177_31 x1
        · refine own_go (fun t k => XS.icmpYes X0.here hx rfl (pc0 := 156) (pc' := 164) rfl (hb hby at_156) rfl (feq hc156).2 (by decide) (by decide) k) ?_
          refine own_go (fun t k => XS.iload X0.here hx rfl (hb hby at_164) rfl  k) ?_
          show own_Run p e below Φ (s₁.setTop (mkF m 166 #[.val (.int p1), .val (.int p2), .val (.int p3), .val (.int p4), .val (.int p5), .val (.int p6), .val (.int (0 : Int32)), .val (.long la), .second, .val (.long lb), .second, .val (.long lc), .second, .val (.long ld), .second, .val (.long lb), .second, .val (.int x0), .val (.int x1), .val (.int x2), .val (.int x3), .val (.int (((p5.toUInt32 >>> ((11 : Int32) &&& 31).toUInt32).toInt32) &&& (3 : Int32))), .val (.int kk), .unset, .unset, .unset, .unset, .unset, .unset] [(.int kk)]))
          refine own_go (fun t k => XS.iconst X0.here hx rfl (hb hby at_166) k) ?_
          by_cases hc167 : kk = (2 : Int32)
          · refine own_go (fun t k => XS.icmpNo X0.here hx rfl (hb hby at_167) rfl (teq hc167).2 k) ?_
            refine own_go (fun t k => XS.iload X0.here hx rfl (hb hby at_170) rfl  k) ?_
            refine own_go (fun t k => XS.goto X0.here hx rfl (pc0 := 172) (pc' := 177) rfl (hb hby at_172) (by decide) (by decide) k) ?_
            exact J177_31 x2
          · refine own_go (fun t k => XS.icmpYes X0.here hx rfl (pc0 := 167) (pc' := 175) rfl (hb hby at_167) rfl (feq hc167).2 (by decide) (by decide) k) ?_
            refine own_go (fun t k => XS.iload X0.here hx rfl (hb hby at_175) rfl  k) ?_
            exact J177_31 x3
    show own_Run p e below Φ (s₁.setTop (mkF m 121 #[.val (.int p1), .val (.int p2), .val (.int p3), .val (.int p4), .val (.int p5), .val (.int p6), .val (.int (0 : Int32)), .val (.long la), .second, .val (.long lb), .second, .val (.long lc), .second, .val (.long ld), .second, .val (.long lb), .second, .val (.int x0), .val (.int x1), .val (.int x2), .val (.int x3), .val (.int (((p5.toUInt32 >>> ((11 : Int32) &&& 31).toUInt32).toInt32) &&& (3 : Int32))), .unset, .unset, .unset, .unset, .unset, .unset, .unset] []))
    refine own_go (fun t k => XS.iload X0.here hx rfl (hb hby at_121) rfl  k) ?_
    show own_Run p e below Φ (s₁.setTop (mkF m 123 #[.val (.int p1), .val (.int p2), .val (.int p3), .val (.int p4), .val (.int p5), .val (.int p6), .val (.int (0 : Int32)), .val (.long la), .second, .val (.long lb), .second, .val (.long lc), .second, .val (.long ld), .second, .val (.long lb), .second, .val (.int x0), .val (.int x1), .val (.int x2), .val (.int x3), .val (.int (((p5.toUInt32 >>> ((11 : Int32) &&& 31).toUInt32).toInt32) &&& (3 : Int32))), .unset, .unset, .unset, .unset, .unset, .unset, .unset] [(.int (0 : Int32))]))
    refine own_go (fun t k => XS.ifNo X0.here hx rfl (hb hby at_123) rfl ((if0 _ _).trans (teq (rfl : (0 : Int32) = (0 : Int32))).2) k) ?_
    refine own_go (fun t k => XS.iconst X0.here hx rfl (hb hby at_126) k) ?_
    refine own_go (fun t k => XS.goto X0.here hx rfl (pc0 := 127) (pc' := 141) rfl (hb hby at_127) (by decide) (by decide) k) ?_
    exact J141_30 (0 : Int32)
  · rw [e1]
    show own_Run p e below Φ (s₁.setTop (mkF m 9 #[.val (.int p1), .val (.int p2), .val (.int p3), .val (.int p4), .val (.int p5), .val (.int p6), .val (.int (1 : Int32)), .unset, .unset, .unset, .unset, .unset, .unset, .unset, .unset, .unset, .unset, .unset, .unset, .unset, .unset, .unset, .unset, .unset, .unset, .unset, .unset, .unset, .unset] []))
    refine own_go (fun t k => XS.iloadN X0.here hx rfl (hb hby at_9) rfl  k) ?_
    refine own_go (fun t k => XS.i2l X0.here hx rfl (hb hby at_10) rfl k) ?_
    refine own_go (fun t k => XS.lstore X0.here hx rfl (hb hby at_11) rfl (l' := #[.val (.int p1), .val (.int p2), .val (.int p3), .val (.int p4), .val (.int p5), .val (.int p6), .val (.int (1 : Int32)), .val (.long (p1.toInt64)), .second, .unset, .unset, .unset, .unset, .unset, .unset, .unset, .unset, .unset, .unset, .unset, .unset, .unset, .unset, .unset, .unset, .unset, .unset, .unset, .unset]) rfl k) ?_
    show own_Run p e below Φ (s₁.setTop (mkF m 13 #[.val (.int p1), .val (.int p2), .val (.int p3), .val (.int p4), .val (.int p5), .val (.int p6), .val (.int (1 : Int32)), .val (.long (p1.toInt64)), .second, .unset, .unset, .unset, .unset, .unset, .unset, .unset, .unset, .unset, .unset, .unset, .unset, .unset, .unset, .unset, .unset, .unset, .unset, .unset, .unset] []))
    refine own_go (fun t k => XS.lload X0.here hx rfl (hb hby at_13) rfl  k) ?_
    refine own_go (fun t k => XS.lconst X0.here hx rfl (hb hby at_15) k) ?_
    refine own_go (fun t k => XS.ladd X0.here hx rfl (hb hby at_16) rfl k) ?_
    refine own_go (fun t k => XS.iloadN X0.here hx rfl (hb hby at_17) rfl  k) ?_
    refine own_go (X0.ldcInt hx hown (mvT hZ (hw _ (List.mem_of_getElem? (i := 0) rfl))) (g := (mkF m 18 #[.val (.int p1), .val (.int p2), .val (.int p3), .val (.int p4), .val (.int p5), .val (.int p6), .val (.int (1 : Int32)), .val (.long (p1.toInt64)), .second, .unset, .unset, .unset, .unset, .unset, .unset, .unset, .unset, .unset, .unset, .unset, .unset, .unset, .unset, .unset, .unset, .unset, .unset, .unset, .unset] [(.int p2), (.long ((p1.toInt64) + (1 : Int64)))])) rfl (hb hby at_18)) ?_
    show own_Run p e below Φ (s₁.setTop (mkF m 20 #[.val (.int p1), .val (.int p2), .val (.int p3), .val (.int p4), .val (.int p5), .val (.int p6), .val (.int (1 : Int32)), .val (.long (p1.toInt64)), .second, .unset, .unset, .unset, .unset, .unset, .unset, .unset, .unset, .unset, .unset, .unset, .unset, .unset, .unset, .unset, .unset, .unset, .unset, .unset, .unset] [(.int (65535 : Int32)), (.int p2), (.long ((p1.toInt64) + (1 : Int64)))]))
    refine own_go (fun t k => XS.iand X0.here hx rfl (hb hby at_20) rfl k) ?_
    refine own_go (fun t k => XS.i2l X0.here hx rfl (hb hby at_21) rfl k) ?_
    refine own_go (fun t k => XS.ladd X0.here hx rfl (hb hby at_22) rfl k) ?_
    refine own_go (fun t k => XS.lstore X0.here hx rfl (hb hby at_23) rfl (l' := #[.val (.int p1), .val (.int p2), .val (.int p3), .val (.int p4), .val (.int p5), .val (.int p6), .val (.int (1 : Int32)), .val (.long (p1.toInt64)), .second, .val (.long (((p1.toInt64) + (1 : Int64)) + ((p2 &&& (65535 : Int32)).toInt64))), .second, .unset, .unset, .unset, .unset, .unset, .unset, .unset, .unset, .unset, .unset, .unset, .unset, .unset, .unset, .unset, .unset, .unset, .unset]) rfl k) ?_
    refine own_go (fun t k => XS.lload X0.here hx rfl (hb hby at_25) rfl  k) ?_
    show own_Run p e below Φ (s₁.setTop (mkF m 27 #[.val (.int p1), .val (.int p2), .val (.int p3), .val (.int p4), .val (.int p5), .val (.int p6), .val (.int (1 : Int32)), .val (.long (p1.toInt64)), .second, .val (.long (((p1.toInt64) + (1 : Int64)) + ((p2 &&& (65535 : Int32)).toInt64))), .second, .unset, .unset, .unset, .unset, .unset, .unset, .unset, .unset, .unset, .unset, .unset, .unset, .unset, .unset, .unset, .unset, .unset, .unset] [(.long (((p1.toInt64) + (1 : Int64)) + ((p2 &&& (65535 : Int32)).toInt64)))]))
    refine own_go (fun t k => XS.lconst X0.here hx rfl (hb hby at_27) k) ?_
    refine own_go (fun t k => XS.ladd X0.here hx rfl (hb hby at_28) rfl k) ?_
    refine own_go (fun t k => XS.iloadN X0.here hx rfl (hb hby at_29) rfl  k) ?_
    refine own_go (X0.ldcInt hx hown (mvT hZ (hw _ (List.mem_of_getElem? (i := 0) rfl))) (g := (mkF m 30 #[.val (.int p1), .val (.int p2), .val (.int p3), .val (.int p4), .val (.int p5), .val (.int p6), .val (.int (1 : Int32)), .val (.long (p1.toInt64)), .second, .val (.long (((p1.toInt64) + (1 : Int64)) + ((p2 &&& (65535 : Int32)).toInt64))), .second, .unset, .unset, .unset, .unset, .unset, .unset, .unset, .unset, .unset, .unset, .unset, .unset, .unset, .unset, .unset, .unset, .unset, .unset] [(.int p3), (.long ((((p1.toInt64) + (1 : Int64)) + ((p2 &&& (65535 : Int32)).toInt64)) + (1 : Int64)))])) rfl (hb hby at_30)) ?_
    refine own_go (fun t k => XS.iand X0.here hx rfl (hb hby at_32) rfl k) ?_
    show own_Run p e below Φ (s₁.setTop (mkF m 33 #[.val (.int p1), .val (.int p2), .val (.int p3), .val (.int p4), .val (.int p5), .val (.int p6), .val (.int (1 : Int32)), .val (.long (p1.toInt64)), .second, .val (.long (((p1.toInt64) + (1 : Int64)) + ((p2 &&& (65535 : Int32)).toInt64))), .second, .unset, .unset, .unset, .unset, .unset, .unset, .unset, .unset, .unset, .unset, .unset, .unset, .unset, .unset, .unset, .unset, .unset, .unset] [(.int (p3 &&& (65535 : Int32))), (.long ((((p1.toInt64) + (1 : Int64)) + ((p2 &&& (65535 : Int32)).toInt64)) + (1 : Int64)))]))
    refine own_go (fun t k => XS.i2l X0.here hx rfl (hb hby at_33) rfl k) ?_
    refine own_go (fun t k => XS.ladd X0.here hx rfl (hb hby at_34) rfl k) ?_
    refine own_go (fun t k => XS.lstore X0.here hx rfl (hb hby at_35) rfl (l' := #[.val (.int p1), .val (.int p2), .val (.int p3), .val (.int p4), .val (.int p5), .val (.int p6), .val (.int (1 : Int32)), .val (.long (p1.toInt64)), .second, .val (.long (((p1.toInt64) + (1 : Int64)) + ((p2 &&& (65535 : Int32)).toInt64))), .second, .val (.long (((((p1.toInt64) + (1 : Int64)) + ((p2 &&& (65535 : Int32)).toInt64)) + (1 : Int64)) + ((p3 &&& (65535 : Int32)).toInt64))), .second, .unset, .unset, .unset, .unset, .unset, .unset, .unset, .unset, .unset, .unset, .unset, .unset, .unset, .unset, .unset, .unset]) rfl k) ?_
    refine own_go (fun t k => XS.lload X0.here hx rfl (hb hby at_37) rfl  k) ?_
    refine own_go (fun t k => XS.lconst X0.here hx rfl (hb hby at_39) k) ?_
    show own_Run p e below Φ (s₁.setTop (mkF m 40 #[.val (.int p1), .val (.int p2), .val (.int p3), .val (.int p4), .val (.int p5), .val (.int p6), .val (.int (1 : Int32)), .val (.long (p1.toInt64)), .second, .val (.long (((p1.toInt64) + (1 : Int64)) + ((p2 &&& (65535 : Int32)).toInt64))), .second, .val (.long (((((p1.toInt64) + (1 : Int64)) + ((p2 &&& (65535 : Int32)).toInt64)) + (1 : Int64)) + ((p3 &&& (65535 : Int32)).toInt64))), .second, .unset, .unset, .unset, .unset, .unset, .unset, .unset, .unset, .unset, .unset, .unset, .unset, .unset, .unset, .unset, .unset] [(.long (1 : Int64)), (.long (((((p1.toInt64) + (1 : Int64)) + ((p2 &&& (65535 : Int32)).toInt64)) + (1 : Int64)) + ((p3 &&& (65535 : Int32)).toInt64)))]))
    refine own_go (fun t k => XS.ladd X0.here hx rfl (hb hby at_40) rfl k) ?_
    refine own_go (fun t k => XS.iloadN X0.here hx rfl (hb hby at_41) rfl  k) ?_
    refine own_go (X0.ldcInt hx hown (mvT hZ (hw _ (List.mem_of_getElem? (i := 0) rfl))) (g := (mkF m 42 #[.val (.int p1), .val (.int p2), .val (.int p3), .val (.int p4), .val (.int p5), .val (.int p6), .val (.int (1 : Int32)), .val (.long (p1.toInt64)), .second, .val (.long (((p1.toInt64) + (1 : Int64)) + ((p2 &&& (65535 : Int32)).toInt64))), .second, .val (.long (((((p1.toInt64) + (1 : Int64)) + ((p2 &&& (65535 : Int32)).toInt64)) + (1 : Int64)) + ((p3 &&& (65535 : Int32)).toInt64))), .second, .unset, .unset, .unset, .unset, .unset, .unset, .unset, .unset, .unset, .unset, .unset, .unset, .unset, .unset, .unset, .unset] [(.int p4), (.long ((((((p1.toInt64) + (1 : Int64)) + ((p2 &&& (65535 : Int32)).toInt64)) + (1 : Int64)) + ((p3 &&& (65535 : Int32)).toInt64)) + (1 : Int64)))])) rfl (hb hby at_42)) ?_
    refine own_go (fun t k => XS.iand X0.here hx rfl (hb hby at_44) rfl k) ?_
    refine own_go (fun t k => XS.i2l X0.here hx rfl (hb hby at_45) rfl k) ?_
    show own_Run p e below Φ (s₁.setTop (mkF m 46 #[.val (.int p1), .val (.int p2), .val (.int p3), .val (.int p4), .val (.int p5), .val (.int p6), .val (.int (1 : Int32)), .val (.long (p1.toInt64)), .second, .val (.long (((p1.toInt64) + (1 : Int64)) + ((p2 &&& (65535 : Int32)).toInt64))), .second, .val (.long (((((p1.toInt64) + (1 : Int64)) + ((p2 &&& (65535 : Int32)).toInt64)) + (1 : Int64)) + ((p3 &&& (65535 : Int32)).toInt64))), .second, .unset, .unset, .unset, .unset, .unset, .unset, .unset, .unset, .unset, .unset, .unset, .unset, .unset, .unset, .unset, .unset] [(.long ((p4 &&& (65535 : Int32)).toInt64)), (.long ((((((p1.toInt64) + (1 : Int64)) + ((p2 &&& (65535 : Int32)).toInt64)) + (1 : Int64)) + ((p3 &&& (65535 : Int32)).toInt64)) + (1 : Int64)))]))
    refine own_go (fun t k => XS.ladd X0.here hx rfl (hb hby at_46) rfl k) ?_
    refine own_go (fun t k => XS.lstore X0.here hx rfl (hb hby at_47) rfl (l' := #[.val (.int p1), .val (.int p2), .val (.int p3), .val (.int p4), .val (.int p5), .val (.int p6), .val (.int (1 : Int32)), .val (.long (p1.toInt64)), .second, .val (.long (((p1.toInt64) + (1 : Int64)) + ((p2 &&& (65535 : Int32)).toInt64))), .second, .val (.long (((((p1.toInt64) + (1 : Int64)) + ((p2 &&& (65535 : Int32)).toInt64)) + (1 : Int64)) + ((p3 &&& (65535 : Int32)).toInt64))), .second, .val (.long (((((((p1.toInt64) + (1 : Int64)) + ((p2 &&& (65535 : Int32)).toInt64)) + (1 : Int64)) + ((p3 &&& (65535 : Int32)).toInt64)) + (1 : Int64)) + ((p4 &&& (65535 : Int32)).toInt64))), .second, .unset, .unset, .unset, .unset, .unset, .unset, .unset, .unset, .unset, .unset, .unset, .unset, .unset, .unset]) rfl k) ?_
    show own_Run p e below Φ (s₁.setTop (mkF m 49 #[.val (.int p1), .val (.int p2), .val (.int p3), .val (.int p4), .val (.int p5), .val (.int p6), .val (.int (1 : Int32)), .val (.long (p1.toInt64)), .second, .val (.long (((p1.toInt64) + (1 : Int64)) + ((p2 &&& (65535 : Int32)).toInt64))), .second, .val (.long (((((p1.toInt64) + (1 : Int64)) + ((p2 &&& (65535 : Int32)).toInt64)) + (1 : Int64)) + ((p3 &&& (65535 : Int32)).toInt64))), .second, .val (.long (((((((p1.toInt64) + (1 : Int64)) + ((p2 &&& (65535 : Int32)).toInt64)) + (1 : Int64)) + ((p3 &&& (65535 : Int32)).toInt64)) + (1 : Int64)) + ((p4 &&& (65535 : Int32)).toInt64))), .second, .unset, .unset, .unset, .unset, .unset, .unset, .unset, .unset, .unset, .unset, .unset, .unset, .unset, .unset] []))
    have r0 := rng32 p1
    have q0 := c_i2l p1
    generalize ela : (p1.toInt64) = la at q0 ⊢
    obtain ⟨qlb, mlb, wlb⟩ := own_up la p2 (by omega) (by omega)
    generalize elb : ((la + (1 : Int64)) + ((p2 &&& (65535 : Int32)).toInt64)) = lb at qlb ⊢
    obtain ⟨qlc, mlc, wlc⟩ := own_up lb p3 (by omega) (by omega)
    generalize elc : ((lb + (1 : Int64)) + ((p3 &&& (65535 : Int32)).toInt64)) = lc at qlc ⊢
    obtain ⟨qld, mld, wld⟩ := own_up lc p4 (by omega) (by omega)
    generalize eld : ((lc + (1 : Int64)) + ((p4 &&& (65535 : Int32)).toInt64)) = ld at qld ⊢
    show own_Run p e below Φ (s₁.setTop (mkF m 49 #[.val (.int p1), .val (.int p2), .val (.int p3), .val (.int p4), .val (.int p5), .val (.int p6), .val (.int (1 : Int32)), .val (.long la), .second, .val (.long lb), .second, .val (.long lc), .second, .val (.long ld), .second, .unset, .unset, .unset, .unset, .unset, .unset, .unset, .unset, .unset, .unset, .unset, .unset, .unset, .unset] []))
    refine own_go (fun t k => XS.iload X0.here hx rfl (hb hby at_49) rfl  k) ?_
    refine own_go (fun t k => XS.iconst X0.here hx rfl (hb hby at_51) k) ?_
    refine own_go (fun t k => XS.icmpYes X0.here hx rfl (pc0 := 52) (pc' := 60) rfl (hb hby at_52) rfl (feq (by decide : ¬ ((1 : Int32) = (4 : Int32)))).2 (by decide) (by decide) k) ?_
    refine own_go (fun t k => XS.iload X0.here hx rfl (hb hby at_60) rfl  k) ?_
    refine own_go (fun t k => XS.iconst X0.here hx rfl (hb hby at_62) k) ?_
    show own_Run p e below Φ (s₁.setTop (mkF m 63 #[.val (.int p1), .val (.int p2), .val (.int p3), .val (.int p4), .val (.int p5), .val (.int p6), .val (.int (1 : Int32)), .val (.long la), .second, .val (.long lb), .second, .val (.long lc), .second, .val (.long ld), .second, .unset, .unset, .unset, .unset, .unset, .unset, .unset, .unset, .unset, .unset, .unset, .unset, .unset, .unset] [(.int (3 : Int32)), (.int (1 : Int32))]))
    refine own_go (fun t k => XS.icmpYes X0.here hx rfl (pc0 := 63) (pc' := 71) rfl (hb hby at_63) rfl (feq (by decide : ¬ ((1 : Int32) = (3 : Int32)))).2 (by decide) (by decide) k) ?_
    refine own_go (fun t k => XS.lload X0.here hx rfl (hb hby at_71) rfl  k) ?_
    refine own_go (fun t k => XS.lstore X0.here hx rfl (hb hby at_73) rfl (l' := #[.val (.int p1), .val (.int p2), .val (.int p3), .val (.int p4), .val (.int p5), .val (.int p6), .val (.int (1 : Int32)), .val (.long la), .second, .val (.long lb), .second, .val (.long lc), .second, .val (.long ld), .second, .val (.long lb), .second, .unset, .unset, .unset, .unset, .unset, .unset, .unset, .unset, .unset, .unset, .unset, .unset]) rfl k) ?_
    refine own_go (fun t k => XS.iload X0.here hx rfl (hb hby at_75) rfl  k) ?_
    refine own_go (fun t k => XS.iconst X0.here hx rfl (hb hby at_77) k) ?_
    show own_Run p e below Φ (s₁.setTop (mkF m 78 #[.val (.int p1), .val (.int p2), .val (.int p3), .val (.int p4), .val (.int p5), .val (.int p6), .val (.int (1 : Int32)), .val (.long la), .second, .val (.long lb), .second, .val (.long lc), .second, .val (.long ld), .second, .val (.long lb), .second, .unset, .unset, .unset, .unset, .unset, .unset, .unset, .unset, .unset, .unset, .unset, .unset] [(.int (2 : Int32)), (.int (1 : Int32))]))
    refine own_go (fun t k => XS.icmpYes X0.here hx rfl (pc0 := 78) (pc' := 92) rfl (hb hby at_78) rfl (tlt (by decide : (1 : Int32) < (2 : Int32))).1 (by decide) (by decide) k) ?_
    refine own_go (fun t k => XS.lload X0.here hx rfl (hb hby at_92) rfl  k) ?_
    refine own_go (fun t k => XS.l2i X0.here hx rfl (hb hby at_94) rfl k) ?_
    refine own_go (fun t k => XS.istore X0.here hx rfl (hb hby at_95) rfl (l' := #[.val (.int p1), .val (.int p2), .val (.int p3), .val (.int p4), .val (.int p5), .val (.int p6), .val (.int (1 : Int32)), .val (.long la), .second, .val (.long lb), .second, .val (.long lc), .second, .val (.long ld), .second, .val (.long lb), .second, .val (.int (la.toInt32)), .unset, .unset, .unset, .unset, .unset, .unset, .unset, .unset, .unset, .unset, .unset]) rfl k) ?_
    refine own_go (fun t k => XS.lload X0.here hx rfl (hb hby at_97) rfl  k) ?_
    show own_Run p e below Φ (s₁.setTop (mkF m 99 #[.val (.int p1), .val (.int p2), .val (.int p3), .val (.int p4), .val (.int p5), .val (.int p6), .val (.int (1 : Int32)), .val (.long la), .second, .val (.long lb), .second, .val (.long lc), .second, .val (.long ld), .second, .val (.long lb), .second, .val (.int (la.toInt32)), .unset, .unset, .unset, .unset, .unset, .unset, .unset, .unset, .unset, .unset, .unset] [(.long lb)]))
    refine own_go (fun t k => XS.l2i X0.here hx rfl (hb hby at_99) rfl k) ?_
    refine own_go (fun t k => XS.istore X0.here hx rfl (hb hby at_100) rfl (l' := #[.val (.int p1), .val (.int p2), .val (.int p3), .val (.int p4), .val (.int p5), .val (.int p6), .val (.int (1 : Int32)), .val (.long la), .second, .val (.long lb), .second, .val (.long lc), .second, .val (.long ld), .second, .val (.long lb), .second, .val (.int (la.toInt32)), .val (.int (lb.toInt32)), .unset, .unset, .unset, .unset, .unset, .unset, .unset, .unset, .unset, .unset]) rfl k) ?_
    refine own_go (fun t k => XS.lload X0.here hx rfl (hb hby at_102) rfl  k) ?_
    refine own_go (fun t k => XS.l2i X0.here hx rfl (hb hby at_104) rfl k) ?_
    refine own_go (fun t k => XS.istore X0.here hx rfl (hb hby at_105) rfl (l' := #[.val (.int p1), .val (.int p2), .val (.int p3), .val (.int p4), .val (.int p5), .val (.int p6), .val (.int (1 : Int32)), .val (.long la), .second, .val (.long lb), .second, .val (.long lc), .second, .val (.long ld), .second, .val (.long lb), .second, .val (.int (la.toInt32)), .val (.int (lb.toInt32)), .val (.int (lc.toInt32)), .unset, .unset, .unset, .unset, .unset, .unset, .unset, .unset, .unset]) rfl k) ?_
    show own_Run p e below Φ (s₁.setTop (mkF m 107 #[.val (.int p1), .val (.int p2), .val (.int p3), .val (.int p4), .val (.int p5), .val (.int p6), .val (.int (1 : Int32)), .val (.long la), .second, .val (.long lb), .second, .val (.long lc), .second, .val (.long ld), .second, .val (.long lb), .second, .val (.int (la.toInt32)), .val (.int (lb.toInt32)), .val (.int (lc.toInt32)), .unset, .unset, .unset, .unset, .unset, .unset, .unset, .unset, .unset] []))
    refine own_go (fun t k => XS.lload X0.here hx rfl (hb hby at_107) rfl  k) ?_
    refine own_go (fun t k => XS.l2i X0.here hx rfl (hb hby at_109) rfl k) ?_
    refine own_go (fun t k => XS.istore X0.here hx rfl (hb hby at_110) rfl (l' := #[.val (.int p1), .val (.int p2), .val (.int p3), .val (.int p4), .val (.int p5), .val (.int p6), .val (.int (1 : Int32)), .val (.long la), .second, .val (.long lb), .second, .val (.long lc), .second, .val (.long ld), .second, .val (.long lb), .second, .val (.int (la.toInt32)), .val (.int (lb.toInt32)), .val (.int (lc.toInt32)), .val (.int (ld.toInt32)), .unset, .unset, .unset, .unset, .unset, .unset, .unset, .unset]) rfl k) ?_
    show own_Run p e below Φ (s₁.setTop (mkF m 112 #[.val (.int p1), .val (.int p2), .val (.int p3), .val (.int p4), .val (.int p5), .val (.int p6), .val (.int (1 : Int32)), .val (.long la), .second, .val (.long lb), .second, .val (.long lc), .second, .val (.long ld), .second, .val (.long lb), .second, .val (.int (la.toInt32)), .val (.int (lb.toInt32)), .val (.int (lc.toInt32)), .val (.int (ld.toInt32)), .unset, .unset, .unset, .unset, .unset, .unset, .unset, .unset] []))
    have d0 := own_dn la (by omega) (by omega)
    generalize ed0 : la.toInt32 = x0 at d0 ⊢
    generalize ed1 : lb.toInt32 = x1
    generalize ed2 : lc.toInt32 = x2
    generalize ed3 : ld.toInt32 = x3
    have J230_32 : ∀ (q : Int32) (m1 : Int32) (m2 : Int32) (m3 : Int32), own_Run p e below Φ (s₁.setTop (mkF m 230 #[.val (.int p1), .val (.int p2), .val (.int p3), .val (.int p4), .val (.int p5), .val (.int p6), .val (.int (1 : Int32)), .val (.long la), .second, .val (.long lb), .second, .val (.long lc), .second, .val (.long ld), .second, .val (.long lb), .second, .val (.int x0), .val (.int x1), .val (.int x2), .val (.int x3), .val (.int m1), .val (.int m2), .val (.int m3), .val (.int q), .unset, .unset, .unset, .unset] [])) := by
      intro q m1 m2 m3
      show own_Run p e below Φ (s₁.setTop (mkF m 230 #[.val (.int p1), .val (.int p2), .val (.int p3), .val (.int p4), .val (.int p5), .val (.int p6), .val (.int (1 : Int32)), .val (.long la), .second, .val (.long lb), .second, .val (.long lc), .second, .val (.long ld), .second, .val (.long lb), .second, .val (.int x0), .val (.int x1), .val (.int x2), .val (.int x3), .val (.int m1), .val (.int m2), .val (.int m3), .val (.int q), .unset, .unset, .unset, .unset] []))
      refine own_go (fun t k => XS.iconst X0.here hx rfl (hb hby at_230) k) ?_
      refine own_newP X0 hx hZ (hw _ (List.mem_of_getElem? (i := 1) rfl)) e0 (g := (mkF m 231 #[.val (.int p1), .val (.int p2), .val (.int p3), .val (.int p4), .val (.int p5), .val (.int p6), .val (.int (1 : Int32)), .val (.long la), .second, .val (.long lb), .second, .val (.long lc), .second, .val (.long ld), .second, .val (.long lb), .second, .val (.int x0), .val (.int x1), .val (.int x2), .val (.int x3), .val (.int m1), .val (.int m2), .val (.int m3), .val (.int q), .unset, .unset, .unset, .unset] [(.int (5 : Int32))])) rfl (hb hby at_231) rfl (by decide) 5 (by decide) (by decide) (by decide) (by decide) 5 (fun T33 h33 k33 b33 X33 e33 E33 g33 V33 => ?_)
      replace V33 : Arv Z h33 b33 k33 .int (5 : Int32) [(.int (0 : Int32)), (.int (0 : Int32)), (.int (0 : Int32)), (.int (0 : Int32)), (.int (0 : Int32))] (.int (0 : Int32)) := V33
      refine own_go (fun t k => XS.astore X33.here hx rfl (hb hby at_233) rfl rfl (l' := #[.val (.int p1), .val (.int p2), .val (.int p3), .val (.int p4), .val (.int p5), .val (.int p6), .val (.int (1 : Int32)), .val (.long la), .second, .val (.long lb), .second, .val (.long lc), .second, .val (.long ld), .second, .val (.long lb), .second, .val (.int x0), .val (.int x1), .val (.int x2), .val (.int x3), .val (.int m1), .val (.int m2), .val (.int m3), .val (.int q), .val (.ref b33), .unset, .unset, .unset]) rfl k) ?_
      refine own_go (fun t k => XS.iconst X33.here hx rfl (hb hby at_235) k) ?_
      have F36 : n0 ≤ h33.size := (Nat.le_trans Z0 E33.1)
      refine own_newP X33 hx hZ (hw _ (List.mem_of_getElem? (i := 1) rfl)) e33 (g := (mkF m 236 #[.val (.int p1), .val (.int p2), .val (.int p3), .val (.int p4), .val (.int p5), .val (.int p6), .val (.int (1 : Int32)), .val (.long la), .second, .val (.long lb), .second, .val (.long lc), .second, .val (.long ld), .second, .val (.long lb), .second, .val (.int x0), .val (.int x1), .val (.int x2), .val (.int x3), .val (.int m1), .val (.int m2), .val (.int m3), .val (.int q), .val (.ref b33), .unset, .unset, .unset] [(.int (5 : Int32))])) rfl (hb hby at_236) rfl (by decide) 5 (by decide) (by decide) (by decide) (by decide) 5 (fun T35 h35 k35 b35 X35 e35 E35 g35 V35 => ?_)
      have ne_b33_b35 : b33 ≠ b35 := Nat.ne_of_lt (Nat.lt_of_lt_of_le V33.lt (Nat.le_of_eq g35.symm))
      replace V35 : Arv Z h35 b35 k35 .int (5 : Int32) [(.int (0 : Int32)), (.int (0 : Int32)), (.int (0 : Int32)), (.int (0 : Int32)), (.int (0 : Int32))] (.int (0 : Int32)) := V35
      show own_Run p e below Φ (T35.setTop (mkF m 238 #[.val (.int p1), .val (.int p2), .val (.int p3), .val (.int p4), .val (.int p5), .val (.int p6), .val (.int (1 : Int32)), .val (.long la), .second, .val (.long lb), .second, .val (.long lc), .second, .val (.long ld), .second, .val (.long lb), .second, .val (.int x0), .val (.int x1), .val (.int x2), .val (.int x3), .val (.int m1), .val (.int m2), .val (.int m3), .val (.int q), .val (.ref b33), .unset, .unset, .unset] [(.ref b35)]))
      refine own_go (fun t k => XS.astore X35.here hx rfl (hb hby at_238) rfl rfl (l' := #[.val (.int p1), .val (.int p2), .val (.int p3), .val (.int p4), .val (.int p5), .val (.int p6), .val (.int (1 : Int32)), .val (.long la), .second, .val (.long lb), .second, .val (.long lc), .second, .val (.long ld), .second, .val (.long lb), .second, .val (.int x0), .val (.int x1), .val (.int x2), .val (.int x3), .val (.int m1), .val (.int m2), .val (.int m3), .val (.int q), .val (.ref b33), .val (.ref b35), .unset, .unset]) rfl k) ?_
      refine own_go (fun t k => XS.aload X35.here hx rfl (hb hby at_240) rfl rfl  k) ?_
      refine own_go (fun t k => XS.iconst X35.here hx rfl (hb hby at_242) k) ?_
      refine own_go (fun t k => XS.iload X35.here hx rfl (hb hby at_243) rfl  k) ?_
      refine own_go (fun t k => XS.ifNo X35.here hx rfl (hb hby at_245) rfl ((if0 _ _).trans (tlt (by decide : (0 : Int32) < (1 : Int32))).2.2.2) k) ?_
      show own_Run p e below Φ (T35.setTop (mkF m 248 #[.val (.int p1), .val (.int p2), .val (.int p3), .val (.int p4), .val (.int p5), .val (.int p6), .val (.int (1 : Int32)), .val (.long la), .second, .val (.long lb), .second, .val (.long lc), .second, .val (.long ld), .second, .val (.long lb), .second, .val (.int x0), .val (.int x1), .val (.int x2), .val (.int x3), .val (.int m1), .val (.int m2), .val (.int m3), .val (.int q), .val (.ref b33), .val (.ref b35), .unset, .unset] [(.int (0 : Int32)), (.ref b33)]))
      refine own_go (fun t k => XS.iload X35.here hx rfl (hb hby at_248) rfl  k) ?_
      refine own_go (fun t k => XS.goto X35.here hx rfl (pc0 := 250) (pc' := 255) rfl (hb hby at_250) (by decide) (by decide) k) ?_
      have F38 : Arv Z h35 b33 k33 .int (5 : Int32) [(.int (0 : Int32)), (.int (0 : Int32)), (.int (0 : Int32)), (.int (0 : Int32)), (.int (0 : Int32))] (.int (0 : Int32)) := (V33.ext E35)
      refine own_iastore X35 hx hZ e35 F38 (j := (0 : Int32)) ⟨by decide, by decide⟩ 0 rfl (Nat.le_of_ble_eq_true rfl) (g := (mkF m 255 #[.val (.int p1), .val (.int p2), .val (.int p3), .val (.int p4), .val (.int p5), .val (.int p6), .val (.int (1 : Int32)), .val (.long la), .second, .val (.long lb), .second, .val (.long lc), .second, .val (.long ld), .second, .val (.long lb), .second, .val (.int x0), .val (.int x1), .val (.int x2), .val (.int x3), .val (.int m1), .val (.int m2), .val (.int m3), .val (.int q), .val (.ref b33), .val (.ref b35), .unset, .unset] [(.int x0), (.int (0 : Int32)), (.ref b33)])) rfl rfl (hb hby at_255) (fun T39 h39 X39 e39 W39 V39 => ?_)
      replace V39 : Arv Z h39 b33 k33 .int (5 : Int32) [(.int x0), (.int (0 : Int32)), (.int (0 : Int32)), (.int (0 : Int32)), (.int (0 : Int32))] (.int (0 : Int32)) := V39
      have N39 := Fr.snoc X39 N0 (Nat.le_trans Z0 (Nat.le_of_eq g33.symm))
      refine own_go (fun t k => XS.aload X39.here hx rfl (hb hby at_256) rfl rfl  k) ?_
      refine own_go (fun t k => XS.iconst X39.here hx rfl (hb hby at_258) k) ?_
      show own_Run p e below Φ (T39.setTop (mkF m 259 #[.val (.int p1), .val (.int p2), .val (.int p3), .val (.int p4), .val (.int p5), .val (.int p6), .val (.int (1 : Int32)), .val (.long la), .second, .val (.long lb), .second, .val (.long lc), .second, .val (.long ld), .second, .val (.long lb), .second, .val (.int x0), .val (.int x1), .val (.int x2), .val (.int x3), .val (.int m1), .val (.int m2), .val (.int m3), .val (.int q), .val (.ref b33), .val (.ref b35), .unset, .unset] [(.int (1 : Int32)), (.ref b33)]))
      refine own_go (fun t k => XS.iload X39.here hx rfl (hb hby at_259) rfl  k) ?_
      refine own_go (fun t k => XS.iconst X39.here hx rfl (hb hby at_261) k) ?_
      refine own_go (fun t k => XS.icmpYes X39.here hx rfl (pc0 := 262) (pc' := 270) rfl (hb hby at_262) rfl (flt (by decide : ¬ ((1 : Int32) < (1 : Int32)))).2.2.2 (by decide) (by decide) k) ?_
      refine own_go (fun t k => XS.iload X39.here hx rfl (hb hby at_270) rfl  k) ?_
      refine own_iastore X39 hx hZ e39 V39 (j := (1 : Int32)) ⟨by decide, by decide⟩ 1 rfl (Nat.le_of_ble_eq_true rfl) (g := (mkF m 272 #[.val (.int p1), .val (.int p2), .val (.int p3), .val (.int p4), .val (.int p5), .val (.int p6), .val (.int (1 : Int32)), .val (.long la), .second, .val (.long lb), .second, .val (.long lc), .second, .val (.long ld), .second, .val (.long lb), .second, .val (.int x0), .val (.int x1), .val (.int x2), .val (.int x3), .val (.int m1), .val (.int m2), .val (.int m3), .val (.int q), .val (.ref b33), .val (.ref b35), .unset, .unset] [(.int q), (.int (1 : Int32)), (.ref b33)])) rfl rfl (hb hby at_272) (fun T40 h40 X40 e40 W40 V40 => ?_)
      replace V40 : Arv Z h40 b33 k33 .int (5 : Int32) [(.int x0), (.int q), (.int (0 : Int32)), (.int (0 : Int32)), (.int (0 : Int32))] (.int (0 : Int32)) := V40
      have N40 := Fr.snoc X40 N39 (Nat.le_trans Z0 (Nat.le_of_eq g33.symm))
      show own_Run p e below Φ (T40.setTop (mkF m 273 #[.val (.int p1), .val (.int p2), .val (.int p3), .val (.int p4), .val (.int p5), .val (.int p6), .val (.int (1 : Int32)), .val (.long la), .second, .val (.long lb), .second, .val (.long lc), .second, .val (.long ld), .second, .val (.long lb), .second, .val (.int x0), .val (.int x1), .val (.int x2), .val (.int x3), .val (.int m1), .val (.int m2), .val (.int m3), .val (.int q), .val (.ref b33), .val (.ref b35), .unset, .unset] []))
      refine own_go (fun t k => XS.aload X40.here hx rfl (hb hby at_273) rfl rfl  k) ?_
      refine own_go (fun t k => XS.iconst X40.here hx rfl (hb hby at_275) k) ?_
      refine own_go (fun t k => XS.iload X40.here hx rfl (hb hby at_276) rfl  k) ?_
      refine own_go (fun t k => XS.iconst X40.here hx rfl (hb hby at_278) k) ?_
      refine own_go (fun t k => XS.icmpYes X40.here hx rfl (pc0 := 279) (pc' := 287) rfl (hb hby at_279) rfl (flt (by decide : ¬ ((2 : Int32) < (1 : Int32)))).2.2.2 (by decide) (by decide) k) ?_
      show own_Run p e below Φ (T40.setTop (mkF m 287 #[.val (.int p1), .val (.int p2), .val (.int p3), .val (.int p4), .val (.int p5), .val (.int p6), .val (.int (1 : Int32)), .val (.long la), .second, .val (.long lb), .second, .val (.long lc), .second, .val (.long ld), .second, .val (.long lb), .second, .val (.int x0), .val (.int x1), .val (.int x2), .val (.int x3), .val (.int m1), .val (.int m2), .val (.int m3), .val (.int q), .val (.ref b33), .val (.ref b35), .unset, .unset] [(.int (2 : Int32)), (.ref b33)]))
      refine own_go (fun t k => XS.iload X40.here hx rfl (hb hby at_287) rfl  k) ?_
      refine own_iastore X40 hx hZ e40 V40 (j := (2 : Int32)) ⟨by decide, by decide⟩ 2 rfl (Nat.le_of_ble_eq_true rfl) (g := (mkF m 289 #[.val (.int p1), .val (.int p2), .val (.int p3), .val (.int p4), .val (.int p5), .val (.int p6), .val (.int (1 : Int32)), .val (.long la), .second, .val (.long lb), .second, .val (.long lc), .second, .val (.long ld), .second, .val (.long lb), .second, .val (.int x0), .val (.int x1), .val (.int x2), .val (.int x3), .val (.int m1), .val (.int m2), .val (.int m3), .val (.int q), .val (.ref b33), .val (.ref b35), .unset, .unset] [(.int q), (.int (2 : Int32)), (.ref b33)])) rfl rfl (hb hby at_289) (fun T41 h41 X41 e41 W41 V41 => ?_)
      replace V41 : Arv Z h41 b33 k33 .int (5 : Int32) [(.int x0), (.int q), (.int q), (.int (0 : Int32)), (.int (0 : Int32))] (.int (0 : Int32)) := V41
      have N41 := Fr.snoc X41 N40 (Nat.le_trans Z0 (Nat.le_of_eq g33.symm))
      refine own_go (fun t k => XS.aload X41.here hx rfl (hb hby at_290) rfl rfl  k) ?_
      refine own_go (fun t k => XS.iconst X41.here hx rfl (hb hby at_292) k) ?_
      refine own_go (fun t k => XS.iload X41.here hx rfl (hb hby at_293) rfl  k) ?_
      show own_Run p e below Φ (T41.setTop (mkF m 295 #[.val (.int p1), .val (.int p2), .val (.int p3), .val (.int p4), .val (.int p5), .val (.int p6), .val (.int (1 : Int32)), .val (.long la), .second, .val (.long lb), .second, .val (.long lc), .second, .val (.long ld), .second, .val (.long lb), .second, .val (.int x0), .val (.int x1), .val (.int x2), .val (.int x3), .val (.int m1), .val (.int m2), .val (.int m3), .val (.int q), .val (.ref b33), .val (.ref b35), .unset, .unset] [(.int (1 : Int32)), (.int (3 : Int32)), (.ref b33)]))
      refine own_go (fun t k => XS.iconst X41.here hx rfl (hb hby at_295) k) ?_
      refine own_go (fun t k => XS.icmpYes X41.here hx rfl (pc0 := 296) (pc' := 304) rfl (hb hby at_296) rfl (flt (by decide : ¬ ((3 : Int32) < (1 : Int32)))).2.2.2 (by decide) (by decide) k) ?_
      refine own_go (fun t k => XS.iload X41.here hx rfl (hb hby at_304) rfl  k) ?_
      refine own_iastore X41 hx hZ e41 V41 (j := (3 : Int32)) ⟨by decide, by decide⟩ 3 rfl (Nat.le_of_ble_eq_true rfl) (g := (mkF m 306 #[.val (.int p1), .val (.int p2), .val (.int p3), .val (.int p4), .val (.int p5), .val (.int p6), .val (.int (1 : Int32)), .val (.long la), .second, .val (.long lb), .second, .val (.long lc), .second, .val (.long ld), .second, .val (.long lb), .second, .val (.int x0), .val (.int x1), .val (.int x2), .val (.int x3), .val (.int m1), .val (.int m2), .val (.int m3), .val (.int q), .val (.ref b33), .val (.ref b35), .unset, .unset] [(.int q), (.int (3 : Int32)), (.ref b33)])) rfl rfl (hb hby at_306) (fun T42 h42 X42 e42 W42 V42 => ?_)
      replace V42 : Arv Z h42 b33 k33 .int (5 : Int32) [(.int x0), (.int q), (.int q), (.int q), (.int (0 : Int32))] (.int (0 : Int32)) := V42
      have N42 := Fr.snoc X42 N41 (Nat.le_trans Z0 (Nat.le_of_eq g33.symm))
      refine own_go (fun t k => XS.aload X42.here hx rfl (hb hby at_307) rfl rfl  k) ?_
      show own_Run p e below Φ (T42.setTop (mkF m 309 #[.val (.int p1), .val (.int p2), .val (.int p3), .val (.int p4), .val (.int p5), .val (.int p6), .val (.int (1 : Int32)), .val (.long la), .second, .val (.long lb), .second, .val (.long lc), .second, .val (.long ld), .second, .val (.long lb), .second, .val (.int x0), .val (.int x1), .val (.int x2), .val (.int x3), .val (.int m1), .val (.int m2), .val (.int m3), .val (.int q), .val (.ref b33), .val (.ref b35), .unset, .unset] [(.ref b33)]))
      refine own_go (fun t k => XS.iconst X42.here hx rfl (hb hby at_309) k) ?_
      refine own_go (fun t k => XS.iload X42.here hx rfl (hb hby at_310) rfl  k) ?_
      refine own_iastore X42 hx hZ e42 V42 (j := (4 : Int32)) ⟨by decide, by decide⟩ 4 rfl (Nat.le_of_ble_eq_true rfl) (g := (mkF m 312 #[.val (.int p1), .val (.int p2), .val (.int p3), .val (.int p4), .val (.int p5), .val (.int p6), .val (.int (1 : Int32)), .val (.long la), .second, .val (.long lb), .second, .val (.long lc), .second, .val (.long ld), .second, .val (.long lb), .second, .val (.int x0), .val (.int x1), .val (.int x2), .val (.int x3), .val (.int m1), .val (.int m2), .val (.int m3), .val (.int q), .val (.ref b33), .val (.ref b35), .unset, .unset] [(.int q), (.int (4 : Int32)), (.ref b33)])) rfl rfl (hb hby at_312) (fun T43 h43 X43 e43 W43 V43 => ?_)
      replace V43 : Arv Z h43 b33 k33 .int (5 : Int32) [(.int x0), (.int q), (.int q), (.int q), (.int q)] (.int (0 : Int32)) := V43
      have N43 := Fr.snoc X43 N42 (Nat.le_trans Z0 (Nat.le_of_eq g33.symm))
      refine own_go (fun t k => XS.aload X43.here hx rfl (hb hby at_313) rfl rfl  k) ?_
      refine own_go (fun t k => XS.iconst X43.here hx rfl (hb hby at_315) k) ?_
      show own_Run p e below Φ (T43.setTop (mkF m 316 #[.val (.int p1), .val (.int p2), .val (.int p3), .val (.int p4), .val (.int p5), .val (.int p6), .val (.int (1 : Int32)), .val (.long la), .second, .val (.long lb), .second, .val (.long lc), .second, .val (.long ld), .second, .val (.long lb), .second, .val (.int x0), .val (.int x1), .val (.int x2), .val (.int x3), .val (.int m1), .val (.int m2), .val (.int m3), .val (.int q), .val (.ref b33), .val (.ref b35), .unset, .unset] [(.int (0 : Int32)), (.ref b35)]))
      refine own_go (fun t k => XS.iconst X43.here hx rfl (hb hby at_316) k) ?_
      have F44 : Arv Z h43 b35 k35 .int (5 : Int32) [(.int (0 : Int32)), (.int (0 : Int32)), (.int (0 : Int32)), (.int (0 : Int32)), (.int (0 : Int32))] (.int (0 : Int32)) := (((((V35.other W39 (Ne.symm ne_b33_b35)).other W40 (Ne.symm ne_b33_b35)).other W41 (Ne.symm ne_b33_b35)).other W42 (Ne.symm ne_b33_b35)).other W43 (Ne.symm ne_b33_b35))
      refine own_iastore X43 hx hZ e43 F44 (j := (0 : Int32)) ⟨by decide, by decide⟩ 0 rfl (Nat.le_of_ble_eq_true rfl) (g := (mkF m 317 #[.val (.int p1), .val (.int p2), .val (.int p3), .val (.int p4), .val (.int p5), .val (.int p6), .val (.int (1 : Int32)), .val (.long la), .second, .val (.long lb), .second, .val (.long lc), .second, .val (.long ld), .second, .val (.long lb), .second, .val (.int x0), .val (.int x1), .val (.int x2), .val (.int x3), .val (.int m1), .val (.int m2), .val (.int m3), .val (.int q), .val (.ref b33), .val (.ref b35), .unset, .unset] [(.int (1 : Int32)), (.int (0 : Int32)), (.ref b35)])) rfl rfl (hb hby at_317) (fun T45 h45 X45 e45 W45 V45 => ?_)
      replace V45 : Arv Z h45 b35 k35 .int (5 : Int32) [(.int (1 : Int32)), (.int (0 : Int32)), (.int (0 : Int32)), (.int (0 : Int32)), (.int (0 : Int32))] (.int (0 : Int32)) := V45
      have N45 := Fr.snoc X45 N43 (Nat.le_trans F36 (Nat.le_of_eq g35.symm))
      refine own_go (fun t k => XS.aload X45.here hx rfl (hb hby at_318) rfl rfl  k) ?_
      refine own_go (fun t k => XS.iconst X45.here hx rfl (hb hby at_320) k) ?_
      refine own_go (fun t k => XS.iconst X45.here hx rfl (hb hby at_321) k) ?_
      show own_Run p e below Φ (T45.setTop (mkF m 322 #[.val (.int p1), .val (.int p2), .val (.int p3), .val (.int p4), .val (.int p5), .val (.int p6), .val (.int (1 : Int32)), .val (.long la), .second, .val (.long lb), .second, .val (.long lc), .second, .val (.long ld), .second, .val (.long lb), .second, .val (.int x0), .val (.int x1), .val (.int x2), .val (.int x3), .val (.int m1), .val (.int m2), .val (.int m3), .val (.int q), .val (.ref b33), .val (.ref b35), .unset, .unset] [(.int (1 : Int32)), (.int (1 : Int32)), (.ref b35)]))
      refine own_iastore X45 hx hZ e45 V45 (j := (1 : Int32)) ⟨by decide, by decide⟩ 1 rfl (Nat.le_of_ble_eq_true rfl) (g := (mkF m 322 #[.val (.int p1), .val (.int p2), .val (.int p3), .val (.int p4), .val (.int p5), .val (.int p6), .val (.int (1 : Int32)), .val (.long la), .second, .val (.long lb), .second, .val (.long lc), .second, .val (.long ld), .second, .val (.long lb), .second, .val (.int x0), .val (.int x1), .val (.int x2), .val (.int x3), .val (.int m1), .val (.int m2), .val (.int m3), .val (.int q), .val (.ref b33), .val (.ref b35), .unset, .unset] [(.int (1 : Int32)), (.int (1 : Int32)), (.ref b35)])) rfl rfl (hb hby at_322) (fun T46 h46 X46 e46 W46 V46 => ?_)
      replace V46 : Arv Z h46 b35 k35 .int (5 : Int32) [(.int (1 : Int32)), (.int (1 : Int32)), (.int (0 : Int32)), (.int (0 : Int32)), (.int (0 : Int32))] (.int (0 : Int32)) := V46
      have N46 := Fr.snoc X46 N45 (Nat.le_trans F36 (Nat.le_of_eq g35.symm))
      refine own_go (fun t k => XS.aload X46.here hx rfl (hb hby at_323) rfl rfl  k) ?_
      refine own_go (fun t k => XS.iconst X46.here hx rfl (hb hby at_325) k) ?_
      refine own_go (fun t k => XS.iconst X46.here hx rfl (hb hby at_326) k) ?_
      refine own_iastore X46 hx hZ e46 V46 (j := (2 : Int32)) ⟨by decide, by decide⟩ 2 rfl (Nat.le_of_ble_eq_true rfl) (g := (mkF m 327 #[.val (.int p1), .val (.int p2), .val (.int p3), .val (.int p4), .val (.int p5), .val (.int p6), .val (.int (1 : Int32)), .val (.long la), .second, .val (.long lb), .second, .val (.long lc), .second, .val (.long ld), .second, .val (.long lb), .second, .val (.int x0), .val (.int x1), .val (.int x2), .val (.int x3), .val (.int m1), .val (.int m2), .val (.int m3), .val (.int q), .val (.ref b33), .val (.ref b35), .unset, .unset] [(.int (1 : Int32)), (.int (2 : Int32)), (.ref b35)])) rfl rfl (hb hby at_327) (fun T47 h47 X47 e47 W47 V47 => ?_)
      replace V47 : Arv Z h47 b35 k35 .int (5 : Int32) [(.int (1 : Int32)), (.int (1 : Int32)), (.int (1 : Int32)), (.int (0 : Int32)), (.int (0 : Int32))] (.int (0 : Int32)) := V47
      have N47 := Fr.snoc X47 N46 (Nat.le_trans F36 (Nat.le_of_eq g35.symm))
      show own_Run p e below Φ (T47.setTop (mkF m 328 #[.val (.int p1), .val (.int p2), .val (.int p3), .val (.int p4), .val (.int p5), .val (.int p6), .val (.int (1 : Int32)), .val (.long la), .second, .val (.long lb), .second, .val (.long lc), .second, .val (.long ld), .second, .val (.long lb), .second, .val (.int x0), .val (.int x1), .val (.int x2), .val (.int x3), .val (.int m1), .val (.int m2), .val (.int m3), .val (.int q), .val (.ref b33), .val (.ref b35), .unset, .unset] []))
      refine own_go (fun t k => XS.aload X47.here hx rfl (hb hby at_328) rfl rfl  k) ?_
      refine own_go (fun t k => XS.iconst X47.here hx rfl (hb hby at_330) k) ?_
      refine own_go (fun t k => XS.iconst X47.here hx rfl (hb hby at_331) k) ?_
      refine own_iastore X47 hx hZ e47 V47 (j := (3 : Int32)) ⟨by decide, by decide⟩ 3 rfl (Nat.le_of_ble_eq_true rfl) (g := (mkF m 332 #[.val (.int p1), .val (.int p2), .val (.int p3), .val (.int p4), .val (.int p5), .val (.int p6), .val (.int (1 : Int32)), .val (.long la), .second, .val (.long lb), .second, .val (.long lc), .second, .val (.long ld), .second, .val (.long lb), .second, .val (.int x0), .val (.int x1), .val (.int x2), .val (.int x3), .val (.int m1), .val (.int m2), .val (.int m3), .val (.int q), .val (.ref b33), .val (.ref b35), .unset, .unset] [(.int (1 : Int32)), (.int (3 : Int32)), (.ref b35)])) rfl rfl (hb hby at_332) (fun T48 h48 X48 e48 W48 V48 => ?_)
      replace V48 : Arv Z h48 b35 k35 .int (5 : Int32) [(.int (1 : Int32)), (.int (1 : Int32)), (.int (1 : Int32)), (.int (1 : Int32)), (.int (0 : Int32))] (.int (0 : Int32)) := V48
      have N48 := Fr.snoc X48 N47 (Nat.le_trans F36 (Nat.le_of_eq g35.symm))
      refine own_go (fun t k => XS.aload X48.here hx rfl (hb hby at_333) rfl rfl  k) ?_
      show own_Run p e below Φ (T48.setTop (mkF m 335 #[.val (.int p1), .val (.int p2), .val (.int p3), .val (.int p4), .val (.int p5), .val (.int p6), .val (.int (1 : Int32)), .val (.long la), .second, .val (.long lb), .second, .val (.long lc), .second, .val (.long ld), .second, .val (.long lb), .second, .val (.int x0), .val (.int x1), .val (.int x2), .val (.int x3), .val (.int m1), .val (.int m2), .val (.int m3), .val (.int q), .val (.ref b33), .val (.ref b35), .unset, .unset] [(.ref b35)]))
      refine own_go (fun t k => XS.iconst X48.here hx rfl (hb hby at_335) k) ?_
      refine own_go (fun t k => XS.iconst X48.here hx rfl (hb hby at_336) k) ?_
      refine own_iastore X48 hx hZ e48 V48 (j := (4 : Int32)) ⟨by decide, by decide⟩ 4 rfl (Nat.le_of_ble_eq_true rfl) (g := (mkF m 337 #[.val (.int p1), .val (.int p2), .val (.int p3), .val (.int p4), .val (.int p5), .val (.int p6), .val (.int (1 : Int32)), .val (.long la), .second, .val (.long lb), .second, .val (.long lc), .second, .val (.long ld), .second, .val (.long lb), .second, .val (.int x0), .val (.int x1), .val (.int x2), .val (.int x3), .val (.int m1), .val (.int m2), .val (.int m3), .val (.int q), .val (.ref b33), .val (.ref b35), .unset, .unset] [(.int (1 : Int32)), (.int (4 : Int32)), (.ref b35)])) rfl rfl (hb hby at_337) (fun T49 h49 X49 e49 W49 V49 => ?_)
      replace V49 : Arv Z h49 b35 k35 .int (5 : Int32) [(.int (1 : Int32)), (.int (1 : Int32)), (.int (1 : Int32)), (.int (1 : Int32)), (.int (1 : Int32))] (.int (0 : Int32)) := V49
      have N49 := Fr.snoc X49 N48 (Nat.le_trans F36 (Nat.le_of_eq g35.symm))
      have F51 : n0 ≤ h49.size := (Nat.le_trans (Nat.le_trans (Nat.le_trans (Nat.le_trans (Nat.le_trans (Nat.le_trans (Nat.le_trans (Nat.le_trans (Nat.le_trans (Nat.le_trans (Nat.le_trans F36 E35.1) (Keep.of_wr W39).1) (Keep.of_wr W40).1) (Keep.of_wr W41).1) (Keep.of_wr W42).1) (Keep.of_wr W43).1) (Keep.of_wr W45).1) (Keep.of_wr W46).1) (Keep.of_wr W47).1) (Keep.of_wr W48).1) (Keep.of_wr W49).1)
      have F52 : Arv Z h49 b33 k33 .int (5 : Int32) [(.int x0), (.int q), (.int q), (.int q), (.int q)] (.int (0 : Int32)) := (((((V43.other W45 ne_b33_b35).other W46 ne_b33_b35).other W47 ne_b33_b35).other W48 ne_b33_b35).other W49 ne_b33_b35)
      obtain ⟨T50, h50, X50, e50, E50, A50, D50, -, st50⟩ := newO X49 hx hZ hown (hw _ (List.mem_of_getElem? (i := 2) rfl)) (hw _ (List.mem_of_getElem? (i := 3) rfl)) (hw _ (List.mem_of_getElem? (i := 4) rfl)) e49 (g := (mkF m 338 #[.val (.int p1), .val (.int p2), .val (.int p3), .val (.int p4), .val (.int p5), .val (.int p6), .val (.int (1 : Int32)), .val (.long la), .second, .val (.long lb), .second, .val (.long lc), .second, .val (.long ld), .second, .val (.long lb), .second, .val (.int x0), .val (.int x1), .val (.int x2), .val (.int x3), .val (.int m1), .val (.int m2), .val (.int m3), .val (.int q), .val (.ref b33), .val (.ref b35), .unset, .unset] [])) rfl (hb hby at_338) (by decide) (by decide)
      refine own_go st50 ?_
      obtain ⟨b50, g50⟩ : ∃ z, z = h49.size := ⟨_, rfl⟩
      rw [← g50] at A50 D50 ⊢
      have ne_b33_b50 : b33 ≠ b50 := Nat.ne_of_lt (Nat.lt_of_lt_of_le F52.lt (Nat.le_of_eq g50.symm))
      have ne_b35_b50 : b35 ≠ b50 := Nat.ne_of_lt (Nat.lt_of_lt_of_le V49.lt (Nat.le_of_eq g50.symm))
      have G53 : Fld Z h50 b50 "com/example/glossyn/glossyn/index/Postings" "documents" "[I" .null := D50 (Or.inr (hw _ (List.mem_of_getElem? (i := 12) rfl))) (ty := (.array .int)) (by decide)
      have G54 : Fld Z h50 b50 "com/example/glossyn/glossyn/index/Postings" "frequencies" "[I" .null := D50 (Or.inr (hw _ (List.mem_of_getElem? (i := 14) rfl))) (ty := (.array .int)) (by decide)
      have G55 : Fld Z h50 b50 "com/example/glossyn/glossyn/index/Postings" "size" "I" (.int (0 : Int32)) := D50 (Or.inr (hw _ (List.mem_of_getElem? (i := 16) rfl))) (ty := .int) (by decide)
      refine own_go (fun t k => XS.dup X50.here hx rfl (hb hby at_341) rfl rfl k) ?_
      show own_Run p e below Φ (T50.setTop (mkF m 342 #[.val (.int p1), .val (.int p2), .val (.int p3), .val (.int p4), .val (.int p5), .val (.int p6), .val (.int (1 : Int32)), .val (.long la), .second, .val (.long lb), .second, .val (.long lc), .second, .val (.long ld), .second, .val (.long lb), .second, .val (.int x0), .val (.int x1), .val (.int x2), .val (.int x3), .val (.int m1), .val (.int m2), .val (.int m3), .val (.int q), .val (.ref b33), .val (.ref b35), .unset, .unset] [(.ref b50), (.ref b50)]))
      refine own_go (fun t k => XS.aload X50.here hx rfl (hb hby at_342) rfl rfl  k) ?_
      refine own_go (fun t k => XS.aload X50.here hx rfl (hb hby at_344) rfl rfl  k) ?_
      refine own_go (fun t k => XS.iload X50.here hx rfl (hb hby at_346) rfl  k) ?_
      refine own_callI X50 hx hZ (y := (⟨"com/example/glossyn/glossyn/index/Postings", "<init>", "([I[II)V"⟩ : MethodName)) (W := 1) (a := b50) (argsL := [(.ref b33), (.ref b35), (.int (1 : Int32))]) (rest := [(.ref b50)]) rfl hown (hw _ (List.mem_of_getElem? (i := 5) rfl)) (hw _ (List.mem_of_getElem? (i := 6) rfl)) (hw _ (List.mem_of_getElem? (i := 7) rfl)) (by decide) (own_bk (rm_ct l Z a0 hw b50 b33 b35 (1 : Int32) h50 n0 A50 G53 G54 G55 (Nat.le_trans F51 (Nat.le_of_eq g50.symm))) hZ (hw _ (List.mem_of_getElem? (i := 7) rfl)) (hw _ (List.mem_of_getElem? (i := 4) rfl)) (by decide) (by decide)) e50 (g := (mkF m 348 #[.val (.int p1), .val (.int p2), .val (.int p3), .val (.int p4), .val (.int p5), .val (.int p6), .val (.int (1 : Int32)), .val (.long la), .second, .val (.long lb), .second, .val (.long lc), .second, .val (.long ld), .second, .val (.long lb), .second, .val (.int x0), .val (.int x1), .val (.int x2), .val (.int x3), .val (.int m1), .val (.int m2), .val (.int m3), .val (.int q), .val (.ref b33), .val (.ref b35), .unset, .unset] [(.int (1 : Int32)), (.ref b35), (.ref b33), (.ref b50), (.ref b50)])) rfl (by rw [hml]; rfl) (lenOf pd_0 rfl) rfl (by show 2 * 0 + _ ≤ _; exact Nat.le_of_eq rfl) (hb hby at_348) (by decide) (by decide) (fun v56 T56 h56 L56 X56 e56 q56 => ?_)
      obtain ⟨rfl, M56, K56, P56_0, P56_1⟩ := q56
      have N56 := Fr.app N49 M56
      refine own_go (fun t k => XS.astore X56.here hx rfl (hb hby at_351) rfl rfl (l' := #[.val (.int p1), .val (.int p2), .val (.int p3), .val (.int p4), .val (.int p5), .val (.int p6), .val (.int (1 : Int32)), .val (.long la), .second, .val (.long lb), .second, .val (.long lc), .second, .val (.long ld), .second, .val (.long lb), .second, .val (.int x0), .val (.int x1), .val (.int x2), .val (.int x3), .val (.int m1), .val (.int m2), .val (.int m3), .val (.int q), .val (.ref b33), .val (.ref b35), .val (.ref b50), .unset]) rfl k) ?_
      show own_Run p e below Φ (T56.setTop (mkF m 353 #[.val (.int p1), .val (.int p2), .val (.int p3), .val (.int p4), .val (.int p5), .val (.int p6), .val (.int (1 : Int32)), .val (.long la), .second, .val (.long lb), .second, .val (.long lc), .second, .val (.long ld), .second, .val (.long lb), .second, .val (.int x0), .val (.int x1), .val (.int x2), .val (.int x3), .val (.int m1), .val (.int m2), .val (.int m3), .val (.int q), .val (.ref b33), .val (.ref b35), .val (.ref b50), .unset] []))
      have J409_57 : ∀ (y : Int32), (own_y1 x0 q = y) → own_Run p e below Φ (T56.setTop (mkF m 409 #[.val (.int p1), .val (.int p2), .val (.int p3), .val (.int p4), .val (.int p5), .val (.int p6), .val (.int (1 : Int32)), .val (.long la), .second, .val (.long lb), .second, .val (.long lc), .second, .val (.long ld), .second, .val (.long lb), .second, .val (.int x0), .val (.int x1), .val (.int x2), .val (.int x3), .val (.int m1), .val (.int m2), .val (.int m3), .val (.int q), .val (.ref b33), .val (.ref b35), .val (.ref b50), .unset] [(.int y)])) := by
        intro y hy
        show own_Run p e below Φ (T56.setTop (mkF m 409 #[.val (.int p1), .val (.int p2), .val (.int p3), .val (.int p4), .val (.int p5), .val (.int p6), .val (.int (1 : Int32)), .val (.long la), .second, .val (.long lb), .second, .val (.long lc), .second, .val (.long ld), .second, .val (.long lb), .second, .val (.int x0), .val (.int x1), .val (.int x2), .val (.int x3), .val (.int m1), .val (.int m2), .val (.int m3), .val (.int q), .val (.ref b33), .val (.ref b35), .val (.ref b50), .unset] [(.int y)]))
        refine own_go (fun t k => XS.istore X56.here hx rfl (hb hby at_409) rfl (l' := #[.val (.int p1), .val (.int p2), .val (.int p3), .val (.int p4), .val (.int p5), .val (.int p6), .val (.int (1 : Int32)), .val (.long la), .second, .val (.long lb), .second, .val (.long lc), .second, .val (.long ld), .second, .val (.long lb), .second, .val (.int x0), .val (.int x1), .val (.int x2), .val (.int x3), .val (.int m1), .val (.int m2), .val (.int m3), .val (.int q), .val (.ref b33), .val (.ref b35), .val (.ref b50), .val (.int y)]) rfl k) ?_
        refine own_go (fun t k => XS.aload X56.here hx rfl (hb hby at_411) rfl rfl  k) ?_
        refine own_go (fun t k => XS.iload X56.here hx rfl (hb hby at_413) rfl  k) ?_
        have F58 : Arv Z h56 b33 k33 .int (5 : Int32) [(.int x0), (.int q), (.int q), (.int q), (.int q)] (.int (0 : Int32)) := ((F52.ext E50).keep K56 (ninS ne_b33_b50 nin0))
        have F60 : Exa Z h56 b50 "com/example/glossyn/glossyn/index/Postings" := (A50.keep K56)
        refine own_callV X56 hx hZ (y := (⟨"com/example/glossyn/glossyn/index/Postings", "contains", "(I)Z"⟩ : MethodName)) (z := (⟨"com/example/glossyn/glossyn/index/Postings", "contains", "(I)Z"⟩ : MethodName)) (W := 0) (a := b50) (argsL := [(.int q)]) (rest := []) hown (hw _ (List.mem_of_getElem? (i := 17) rfl)) (hw _ (List.mem_of_getElem? (i := 18) rfl)) (notFace_of_selects (args := #[]) (mvT hZ (hw _ (List.mem_of_getElem? (i := 20) rfl)))) (hw _ (List.mem_of_getElem? (i := 20) rfl)) (hw _ (List.mem_of_getElem? (i := 19) rfl)) (by decide) (own_bk (rm_cn1 l Z a0 hw b50 q b33 k33 x0 q q q q h56 n0 P56_0 P56_1 F58) hZ (hw _ (List.mem_of_getElem? (i := 21) rfl)) (hw _ (List.mem_of_getElem? (i := 4) rfl)) (by decide) (by decide)) e56 F60 (g := (mkF m 415 #[.val (.int p1), .val (.int p2), .val (.int p3), .val (.int p4), .val (.int p5), .val (.int p6), .val (.int (1 : Int32)), .val (.long la), .second, .val (.long lb), .second, .val (.long lc), .second, .val (.long ld), .second, .val (.long lb), .second, .val (.int x0), .val (.int x1), .val (.int x2), .val (.int x3), .val (.int m1), .val (.int m2), .val (.int m3), .val (.int q), .val (.ref b33), .val (.ref b35), .val (.ref b50), .val (.int y)] [(.int q), (.ref b50)])) rfl (by rw [hml]; rfl) (lenOf pd_2 rfl) rfl (by show 2 * 0 + _ ≤ _; exact Nat.le_of_eq rfl) (hb hby at_415) (by decide) (by decide) (fun v59 T59 h59 L59 X59 e59 q59 => ?_)
        obtain ⟨rfl, M59, s59⟩ := q59
        replace e59 : T59.heap = h56 := e59.trans s59
        have N59 := Fr.app N56 M59
        refine own_go (fun t k => XS.iload X59.here hx rfl (hb hby at_418) rfl  k) ?_
        show own_Run p e below Φ (T59.setTop (mkF m 420 #[.val (.int p1), .val (.int p2), .val (.int p3), .val (.int p4), .val (.int p5), .val (.int p6), .val (.int (1 : Int32)), .val (.long la), .second, .val (.long lb), .second, .val (.long lc), .second, .val (.long ld), .second, .val (.long lb), .second, .val (.int x0), .val (.int x1), .val (.int x2), .val (.int x3), .val (.int m1), .val (.int m2), .val (.int m3), .val (.int q), .val (.ref b33), .val (.ref b35), .val (.ref b50), .val (.int y)] [(.int y), (.int (own_y1 x0 q))]))
        have hc420 : (own_y1 x0 q) = y := hy
        refine own_go (fun t k => XS.icmpNo X59.here hx rfl (hb hby at_420) rfl (teq hc420).2 k) ?_
        refine own_go (fun t k => XS.iconst X59.here hx rfl (hb hby at_423) k) ?_
        refine own_go (fun t k => XS.goto X59.here hx rfl (pc0 := 424) (pc' := 428) rfl (hb hby at_424) (by decide) (by decide) k) ?_
        subst hΦ
        exact own_retN X59 hx (t := .boolean) Bd.returns (by simp) hlk (hb hby at_428) e59 ⟨rfl, N59⟩ (by decide) (by decide)
      show own_Run p e below Φ (T56.setTop (mkF m 353 #[.val (.int p1), .val (.int p2), .val (.int p3), .val (.int p4), .val (.int p5), .val (.int p6), .val (.int (1 : Int32)), .val (.long la), .second, .val (.long lb), .second, .val (.long lc), .second, .val (.long ld), .second, .val (.long lb), .second, .val (.int x0), .val (.int x1), .val (.int x2), .val (.int x3), .val (.int m1), .val (.int m2), .val (.int m3), .val (.int q), .val (.ref b33), .val (.ref b35), .val (.ref b50), .unset] []))
      refine own_go (fun t k => XS.iload X56.here hx rfl (hb hby at_353) rfl  k) ?_
      refine own_go (fun t k => XS.ifNo X56.here hx rfl (hb hby at_355) rfl ((if0 _ _).trans (tlt (by decide : (0 : Int32) < (1 : Int32))).2.2.2) k) ?_
      show own_Run p e below Φ (T56.setTop (mkF m 358 #[.val (.int p1), .val (.int p2), .val (.int p3), .val (.int p4), .val (.int p5), .val (.int p6), .val (.int (1 : Int32)), .val (.long la), .second, .val (.long lb), .second, .val (.long lc), .second, .val (.long ld), .second, .val (.long lb), .second, .val (.int x0), .val (.int x1), .val (.int x2), .val (.int x3), .val (.int m1), .val (.int m2), .val (.int m3), .val (.int q), .val (.ref b33), .val (.ref b35), .val (.ref b50), .unset] []))
      refine own_go (fun t k => XS.iload X56.here hx rfl (hb hby at_358) rfl  k) ?_
      refine own_go (fun t k => XS.iload X56.here hx rfl (hb hby at_360) rfl  k) ?_
      by_cases hc362 : q = x0
      · refine own_go (fun t k => XS.icmpYes X56.here hx rfl (pc0 := 362) (pc' := 404) rfl (hb hby at_362) rfl (teq hc362).1 (by decide) (by decide) k) ?_
        refine own_go (fun t k => XS.iconst X56.here hx rfl (hb hby at_404) k) ?_
        refine own_go (fun t k => XS.goto X56.here hx rfl (pc0 := 405) (pc' := 409) rfl (hb hby at_405) (by decide) (by decide) k) ?_
        exact J409_57 (1 : Int32) (by unfold own_y1; rw [if_pos hc362])
      · refine own_go (fun t k => XS.icmpNo X56.here hx rfl (hb hby at_362) rfl (feq hc362).1 k) ?_
        show own_Run p e below Φ (T56.setTop (mkF m 365 #[.val (.int p1), .val (.int p2), .val (.int p3), .val (.int p4), .val (.int p5), .val (.int p6), .val (.int (1 : Int32)), .val (.long la), .second, .val (.long lb), .second, .val (.long lc), .second, .val (.long ld), .second, .val (.long lb), .second, .val (.int x0), .val (.int x1), .val (.int x2), .val (.int x3), .val (.int m1), .val (.int m2), .val (.int m3), .val (.int q), .val (.ref b33), .val (.ref b35), .val (.ref b50), .unset] []))
        refine own_go (fun t k => XS.iload X56.here hx rfl (hb hby at_365) rfl  k) ?_
        refine own_go (fun t k => XS.iconst X56.here hx rfl (hb hby at_367) k) ?_
        refine own_go (fun t k => XS.icmpYes X56.here hx rfl (pc0 := 368) (pc' := 378) rfl (hb hby at_368) rfl (flt (by decide : ¬ ((1 : Int32) < (1 : Int32)))).2.2.2 (by decide) (by decide) k) ?_
        refine own_go (fun t k => XS.iload X56.here hx rfl (hb hby at_378) rfl  k) ?_
        refine own_go (fun t k => XS.iconst X56.here hx rfl (hb hby at_380) k) ?_
        show own_Run p e below Φ (T56.setTop (mkF m 381 #[.val (.int p1), .val (.int p2), .val (.int p3), .val (.int p4), .val (.int p5), .val (.int p6), .val (.int (1 : Int32)), .val (.long la), .second, .val (.long lb), .second, .val (.long lc), .second, .val (.long ld), .second, .val (.long lb), .second, .val (.int x0), .val (.int x1), .val (.int x2), .val (.int x3), .val (.int m1), .val (.int m2), .val (.int m3), .val (.int q), .val (.ref b33), .val (.ref b35), .val (.ref b50), .unset] [(.int (2 : Int32)), (.int (1 : Int32))]))
        refine own_go (fun t k => XS.icmpYes X56.here hx rfl (pc0 := 381) (pc' := 391) rfl (hb hby at_381) rfl (flt (by decide : ¬ ((2 : Int32) < (1 : Int32)))).2.2.2 (by decide) (by decide) k) ?_
        refine own_go (fun t k => XS.iload X56.here hx rfl (hb hby at_391) rfl  k) ?_
        refine own_go (fun t k => XS.iconst X56.here hx rfl (hb hby at_393) k) ?_
        refine own_go (fun t k => XS.icmpYes X56.here hx rfl (pc0 := 394) (pc' := 408) rfl (hb hby at_394) rfl (flt (by decide : ¬ ((3 : Int32) < (1 : Int32)))).2.2.2 (by decide) (by decide) k) ?_
        refine own_go (fun t k => XS.iconst X56.here hx rfl (hb hby at_408) k) ?_
        exact J409_57 (0 : Int32) (by unfold own_y1; rw [if_neg hc362])
    show own_Run p e below Φ (s₁.setTop (mkF m 112 #[.val (.int p1), .val (.int p2), .val (.int p3), .val (.int p4), .val (.int p5), .val (.int p6), .val (.int (1 : Int32)), .val (.long la), .second, .val (.long lb), .second, .val (.long lc), .second, .val (.long ld), .second, .val (.long lb), .second, .val (.int x0), .val (.int x1), .val (.int x2), .val (.int x3), .unset, .unset, .unset, .unset, .unset, .unset, .unset, .unset] []))
    refine own_go (fun t k => XS.iload X0.here hx rfl (hb hby at_112) rfl  k) ?_
    show own_Run p e below Φ (s₁.setTop (mkF m 114 #[.val (.int p1), .val (.int p2), .val (.int p3), .val (.int p4), .val (.int p5), .val (.int p6), .val (.int (1 : Int32)), .val (.long la), .second, .val (.long lb), .second, .val (.long lc), .second, .val (.long ld), .second, .val (.long lb), .second, .val (.int x0), .val (.int x1), .val (.int x2), .val (.int x3), .unset, .unset, .unset, .unset, .unset, .unset, .unset, .unset] [(.int p5)]))
    refine own_go (fun t k => XS.bipush X0.here hx rfl (hb hby at_114) k) ?_
    refine own_go (fun t k => XS.iushr X0.here hx rfl (hb hby at_116) rfl k) ?_
    refine own_go (fun t k => XS.iconst X0.here hx rfl (hb hby at_117) k) ?_
    refine own_go (fun t k => XS.iand X0.here hx rfl (hb hby at_118) rfl k) ?_
    refine own_go (fun t k => XS.istore X0.here hx rfl (hb hby at_119) rfl (l' := #[.val (.int p1), .val (.int p2), .val (.int p3), .val (.int p4), .val (.int p5), .val (.int p6), .val (.int (1 : Int32)), .val (.long la), .second, .val (.long lb), .second, .val (.long lc), .second, .val (.long ld), .second, .val (.long lb), .second, .val (.int x0), .val (.int x1), .val (.int x2), .val (.int x3), .val (.int (((p5.toUInt32 >>> ((11 : Int32) &&& 31).toUInt32).toInt32) &&& (3 : Int32))), .unset, .unset, .unset, .unset, .unset, .unset, .unset]) rfl k) ?_
    show own_Run p e below Φ (s₁.setTop (mkF m 121 #[.val (.int p1), .val (.int p2), .val (.int p3), .val (.int p4), .val (.int p5), .val (.int p6), .val (.int (1 : Int32)), .val (.long la), .second, .val (.long lb), .second, .val (.long lc), .second, .val (.long ld), .second, .val (.long lb), .second, .val (.int x0), .val (.int x1), .val (.int x2), .val (.int x3), .val (.int (((p5.toUInt32 >>> ((11 : Int32) &&& 31).toUInt32).toInt32) &&& (3 : Int32))), .unset, .unset, .unset, .unset, .unset, .unset, .unset] []))
    have J141_61 : ∀ (kk : Int32), own_Run p e below Φ (s₁.setTop (mkF m 141 #[.val (.int p1), .val (.int p2), .val (.int p3), .val (.int p4), .val (.int p5), .val (.int p6), .val (.int (1 : Int32)), .val (.long la), .second, .val (.long lb), .second, .val (.long lc), .second, .val (.long ld), .second, .val (.long lb), .second, .val (.int x0), .val (.int x1), .val (.int x2), .val (.int x3), .val (.int (((p5.toUInt32 >>> ((11 : Int32) &&& 31).toUInt32).toInt32) &&& (3 : Int32))), .unset, .unset, .unset, .unset, .unset, .unset, .unset] [(.int kk)])) := by
      intro kk
      show own_Run p e below Φ (s₁.setTop (mkF m 141 #[.val (.int p1), .val (.int p2), .val (.int p3), .val (.int p4), .val (.int p5), .val (.int p6), .val (.int (1 : Int32)), .val (.long la), .second, .val (.long lb), .second, .val (.long lc), .second, .val (.long ld), .second, .val (.long lb), .second, .val (.int x0), .val (.int x1), .val (.int x2), .val (.int x3), .val (.int (((p5.toUInt32 >>> ((11 : Int32) &&& 31).toUInt32).toInt32) &&& (3 : Int32))), .unset, .unset, .unset, .unset, .unset, .unset, .unset] [(.int kk)]))
      refine own_go (fun t k => XS.istore X0.here hx rfl (hb hby at_141) rfl (l' := #[.val (.int p1), .val (.int p2), .val (.int p3), .val (.int p4), .val (.int p5), .val (.int p6), .val (.int (1 : Int32)), .val (.long la), .second, .val (.long lb), .second, .val (.long lc), .second, .val (.long ld), .second, .val (.long lb), .second, .val (.int x0), .val (.int x1), .val (.int x2), .val (.int x3), .val (.int (((p5.toUInt32 >>> ((11 : Int32) &&& 31).toUInt32).toInt32) &&& (3 : Int32))), .val (.int kk), .unset, .unset, .unset, .unset, .unset, .unset]) rfl k) ?_
      show own_Run p e below Φ (s₁.setTop (mkF m 143 #[.val (.int p1), .val (.int p2), .val (.int p3), .val (.int p4), .val (.int p5), .val (.int p6), .val (.int (1 : Int32)), .val (.long la), .second, .val (.long lb), .second, .val (.long lc), .second, .val (.long ld), .second, .val (.long lb), .second, .val (.int x0), .val (.int x1), .val (.int x2), .val (.int x3), .val (.int (((p5.toUInt32 >>> ((11 : Int32) &&& 31).toUInt32).toInt32) &&& (3 : Int32))), .val (.int kk), .unset, .unset, .unset, .unset, .unset, .unset] []))
      have J177_62 : ∀ (pk : Int32), own_Run p e below Φ (s₁.setTop (mkF m 177 #[.val (.int p1), .val (.int p2), .val (.int p3), .val (.int p4), .val (.int p5), .val (.int p6), .val (.int (1 : Int32)), .val (.long la), .second, .val (.long lb), .second, .val (.long lc), .second, .val (.long ld), .second, .val (.long lb), .second, .val (.int x0), .val (.int x1), .val (.int x2), .val (.int x3), .val (.int (((p5.toUInt32 >>> ((11 : Int32) &&& 31).toUInt32).toInt32) &&& (3 : Int32))), .val (.int kk), .unset, .unset, .unset, .unset, .unset, .unset] [(.int pk)])) := by
        intro pk
        show own_Run p e below Φ (s₁.setTop (mkF m 177 #[.val (.int p1), .val (.int p2), .val (.int p3), .val (.int p4), .val (.int p5), .val (.int p6), .val (.int (1 : Int32)), .val (.long la), .second, .val (.long lb), .second, .val (.long lc), .second, .val (.long ld), .second, .val (.long lb), .second, .val (.int x0), .val (.int x1), .val (.int x2), .val (.int x3), .val (.int (((p5.toUInt32 >>> ((11 : Int32) &&& 31).toUInt32).toInt32) &&& (3 : Int32))), .val (.int kk), .unset, .unset, .unset, .unset, .unset, .unset] [(.int pk)]))
        refine own_go (fun t k => XS.istore X0.here hx rfl (hb hby at_177) rfl (l' := #[.val (.int p1), .val (.int p2), .val (.int p3), .val (.int p4), .val (.int p5), .val (.int p6), .val (.int (1 : Int32)), .val (.long la), .second, .val (.long lb), .second, .val (.long lc), .second, .val (.long ld), .second, .val (.long lb), .second, .val (.int x0), .val (.int x1), .val (.int x2), .val (.int x3), .val (.int (((p5.toUInt32 >>> ((11 : Int32) &&& 31).toUInt32).toInt32) &&& (3 : Int32))), .val (.int kk), .val (.int pk), .unset, .unset, .unset, .unset, .unset]) rfl k) ?_
        refine own_go (fun t k => XS.iload X0.here hx rfl (hb hby at_179) rfl  k) ?_
        refine own_go (fun t k => XS.ifNo X0.here hx rfl (hb hby at_181) rfl ((if0 _ _).trans (feq (by decide : ¬ ((1 : Int32) = (0 : Int32)))).1) k) ?_
        refine own_go (fun t k => XS.iload X0.here hx rfl (hb hby at_184) rfl  k) ?_
        by_cases hc186 : (((p5.toUInt32 >>> ((11 : Int32) &&& 31).toUInt32).toInt32) &&& (3 : Int32)) = (0 : Int32)
        · refine own_go (fun t k => XS.ifNo X0.here hx rfl (hb hby at_186) rfl ((if0 _ _).trans (teq hc186).2) k) ?_
          show own_Run p e below Φ (s₁.setTop (mkF m 189 #[.val (.int p1), .val (.int p2), .val (.int p3), .val (.int p4), .val (.int p5), .val (.int p6), .val (.int (1 : Int32)), .val (.long la), .second, .val (.long lb), .second, .val (.long lc), .second, .val (.long ld), .second, .val (.long lb), .second, .val (.int x0), .val (.int x1), .val (.int x2), .val (.int x3), .val (.int (((p5.toUInt32 >>> ((11 : Int32) &&& 31).toUInt32).toInt32) &&& (3 : Int32))), .val (.int kk), .val (.int pk), .unset, .unset, .unset, .unset, .unset] []))
          refine own_go (fun t k => XS.iload X0.here hx rfl (hb hby at_189) rfl  k) ?_
          refine own_go (fun t k => XS.istore X0.here hx rfl (hb hby at_191) rfl (l' := #[.val (.int p1), .val (.int p2), .val (.int p3), .val (.int p4), .val (.int p5), .val (.int p6), .val (.int (1 : Int32)), .val (.long la), .second, .val (.long lb), .second, .val (.long lc), .second, .val (.long ld), .second, .val (.long lb), .second, .val (.int x0), .val (.int x1), .val (.int x2), .val (.int x3), .val (.int (((p5.toUInt32 >>> ((11 : Int32) &&& 31).toUInt32).toInt32) &&& (3 : Int32))), .val (.int kk), .val (.int pk), .val (.int p6), .unset, .unset, .unset, .unset]) rfl k) ?_
          refine own_go (fun t k => XS.goto X0.here hx rfl (pc0 := 193) (pc' := 230) rfl (hb hby at_193) (by decide) (by decide) k) ?_
          exact J230_32 p6 (((p5.toUInt32 >>> ((11 : Int32) &&& 31).toUInt32).toInt32) &&& (3 : Int32)) kk pk
        · refine own_go (fun t k => XS.ifYes X0.here hx rfl (pc0 := 186) (pc' := 196) rfl (hb hby at_186) rfl ((if0 _ _).trans (feq hc186).2) (by decide) (by decide) k) ?_
          refine own_go (fun t k => XS.iload X0.here hx rfl (hb hby at_196) rfl  k) ?_
          refine own_go (fun t k => XS.iconst X0.here hx rfl (hb hby at_198) k) ?_
          show own_Run p e below Φ (s₁.setTop (mkF m 199 #[.val (.int p1), .val (.int p2), .val (.int p3), .val (.int p4), .val (.int p5), .val (.int p6), .val (.int (1 : Int32)), .val (.long la), .second, .val (.long lb), .second, .val (.long lc), .second, .val (.long ld), .second, .val (.long lb), .second, .val (.int x0), .val (.int x1), .val (.int x2), .val (.int x3), .val (.int (((p5.toUInt32 >>> ((11 : Int32) &&& 31).toUInt32).toInt32) &&& (3 : Int32))), .val (.int kk), .val (.int pk), .unset, .unset, .unset, .unset, .unset] [(.int (1 : Int32)), (.int (((p5.toUInt32 >>> ((11 : Int32) &&& 31).toUInt32).toInt32) &&& (3 : Int32)))]))
          by_cases hc199 : (((p5.toUInt32 >>> ((11 : Int32) &&& 31).toUInt32).toInt32) &&& (3 : Int32)) = (1 : Int32)
          · refine own_go (fun t k => XS.icmpNo X0.here hx rfl (hb hby at_199) rfl (teq hc199).2 k) ?_
            refine own_go (fun t k => XS.iload X0.here hx rfl (hb hby at_202) rfl  k) ?_
            refine own_go (fun t k => XS.istore X0.here hx rfl (hb hby at_204) rfl (l' := #[.val (.int p1), .val (.int p2), .val (.int p3), .val (.int p4), .val (.int p5), .val (.int p6), .val (.int (1 : Int32)), .val (.long la), .second, .val (.long lb), .second, .val (.long lc), .second, .val (.long ld), .second, .val (.long lb), .second, .val (.int x0), .val (.int x1), .val (.int x2), .val (.int x3), .val (.int (((p5.toUInt32 >>> ((11 : Int32) &&& 31).toUInt32).toInt32) &&& (3 : Int32))), .val (.int kk), .val (.int pk), .val (.int pk), .unset, .unset, .unset, .unset]) rfl k) ?_
            refine own_go (fun t k => XS.goto X0.here hx rfl (pc0 := 206) (pc' := 230) rfl (hb hby at_206) (by decide) (by decide) k) ?_
            exact J230_32 pk (((p5.toUInt32 >>> ((11 : Int32) &&& 31).toUInt32).toInt32) &&& (3 : Int32)) kk pk
          · refine own_go (fun t k => XS.icmpYes X0.here hx rfl (pc0 := 199) (pc' := 209) rfl (hb hby at_199) rfl (feq hc199).2 (by decide) (by decide) k) ?_
            refine own_go (fun t k => XS.iload X0.here hx rfl (hb hby at_209) rfl  k) ?_
            show own_Run p e below Φ (s₁.setTop (mkF m 211 #[.val (.int p1), .val (.int p2), .val (.int p3), .val (.int p4), .val (.int p5), .val (.int p6), .val (.int (1 : Int32)), .val (.long la), .second, .val (.long lb), .second, .val (.long lc), .second, .val (.long ld), .second, .val (.long lb), .second, .val (.int x0), .val (.int x1), .val (.int x2), .val (.int x3), .val (.int (((p5.toUInt32 >>> ((11 : Int32) &&& 31).toUInt32).toInt32) &&& (3 : Int32))), .val (.int kk), .val (.int pk), .unset, .unset, .unset, .unset, .unset] [(.int (((p5.toUInt32 >>> ((11 : Int32) &&& 31).toUInt32).toInt32) &&& (3 : Int32)))]))
            refine own_go (fun t k => XS.iconst X0.here hx rfl (hb hby at_211) k) ?_
            by_cases hc212 : (((p5.toUInt32 >>> ((11 : Int32) &&& 31).toUInt32).toInt32) &&& (3 : Int32)) = (2 : Int32)
            · refine own_go (fun t k => XS.icmpNo X0.here hx rfl (hb hby at_212) rfl (teq hc212).2 k) ?_
              refine own_go (fun t k => XS.iload X0.here hx rfl (hb hby at_215) rfl  k) ?_
              refine own_go (fun t k => XS.iconst X0.here hx rfl (hb hby at_217) k) ?_
              refine own_go (fun t k => XS.iadd X0.here hx rfl (hb hby at_218) rfl k) ?_
              show own_Run p e below Φ (s₁.setTop (mkF m 219 #[.val (.int p1), .val (.int p2), .val (.int p3), .val (.int p4), .val (.int p5), .val (.int p6), .val (.int (1 : Int32)), .val (.long la), .second, .val (.long lb), .second, .val (.long lc), .second, .val (.long ld), .second, .val (.long lb), .second, .val (.int x0), .val (.int x1), .val (.int x2), .val (.int x3), .val (.int (((p5.toUInt32 >>> ((11 : Int32) &&& 31).toUInt32).toInt32) &&& (3 : Int32))), .val (.int kk), .val (.int pk), .unset, .unset, .unset, .unset, .unset] [(.int (pk + (1 : Int32)))]))
              refine own_go (fun t k => XS.istore X0.here hx rfl (hb hby at_219) rfl (l' := #[.val (.int p1), .val (.int p2), .val (.int p3), .val (.int p4), .val (.int p5), .val (.int p6), .val (.int (1 : Int32)), .val (.long la), .second, .val (.long lb), .second, .val (.long lc), .second, .val (.long ld), .second, .val (.long lb), .second, .val (.int x0), .val (.int x1), .val (.int x2), .val (.int x3), .val (.int (((p5.toUInt32 >>> ((11 : Int32) &&& 31).toUInt32).toInt32) &&& (3 : Int32))), .val (.int kk), .val (.int pk), .val (.int (pk + (1 : Int32))), .unset, .unset, .unset, .unset]) rfl k) ?_
              refine own_go (fun t k => XS.goto X0.here hx rfl (pc0 := 221) (pc' := 230) rfl (hb hby at_221) (by decide) (by decide) k) ?_
              exact J230_32 (pk + (1 : Int32)) (((p5.toUInt32 >>> ((11 : Int32) &&& 31).toUInt32).toInt32) &&& (3 : Int32)) kk pk
            · refine own_go (fun t k => XS.icmpYes X0.here hx rfl (pc0 := 212) (pc' := 224) rfl (hb hby at_212) rfl (feq hc212).2 (by decide) (by decide) k) ?_
              refine own_go (fun t k => XS.iload X0.here hx rfl (hb hby at_224) rfl  k) ?_
              refine own_go (fun t k => XS.iconst X0.here hx rfl (hb hby at_226) k) ?_
              refine own_go (fun t k => XS.isub X0.here hx rfl (hb hby at_227) rfl k) ?_
              show own_Run p e below Φ (s₁.setTop (mkF m 228 #[.val (.int p1), .val (.int p2), .val (.int p3), .val (.int p4), .val (.int p5), .val (.int p6), .val (.int (1 : Int32)), .val (.long la), .second, .val (.long lb), .second, .val (.long lc), .second, .val (.long ld), .second, .val (.long lb), .second, .val (.int x0), .val (.int x1), .val (.int x2), .val (.int x3), .val (.int (((p5.toUInt32 >>> ((11 : Int32) &&& 31).toUInt32).toInt32) &&& (3 : Int32))), .val (.int kk), .val (.int pk), .unset, .unset, .unset, .unset, .unset] [(.int (pk - (1 : Int32)))]))
              refine own_go (fun t k => XS.istore X0.here hx rfl (hb hby at_228) rfl (l' := #[.val (.int p1), .val (.int p2), .val (.int p3), .val (.int p4), .val (.int p5), .val (.int p6), .val (.int (1 : Int32)), .val (.long la), .second, .val (.long lb), .second, .val (.long lc), .second, .val (.long ld), .second, .val (.long lb), .second, .val (.int x0), .val (.int x1), .val (.int x2), .val (.int x3), .val (.int (((p5.toUInt32 >>> ((11 : Int32) &&& 31).toUInt32).toInt32) &&& (3 : Int32))), .val (.int kk), .val (.int pk), .val (.int (pk - (1 : Int32))), .unset, .unset, .unset, .unset]) rfl k) ?_
              exact J230_32 (pk - (1 : Int32)) (((p5.toUInt32 >>> ((11 : Int32) &&& 31).toUInt32).toInt32) &&& (3 : Int32)) kk pk
      show own_Run p e below Φ (s₁.setTop (mkF m 143 #[.val (.int p1), .val (.int p2), .val (.int p3), .val (.int p4), .val (.int p5), .val (.int p6), .val (.int (1 : Int32)), .val (.long la), .second, .val (.long lb), .second, .val (.long lc), .second, .val (.long ld), .second, .val (.long lb), .second, .val (.int x0), .val (.int x1), .val (.int x2), .val (.int x3), .val (.int (((p5.toUInt32 >>> ((11 : Int32) &&& 31).toUInt32).toInt32) &&& (3 : Int32))), .val (.int kk), .unset, .unset, .unset, .unset, .unset, .unset] []))
      refine own_go (fun t k => XS.iload X0.here hx rfl (hb hby at_143) rfl  k) ?_
      by_cases hc145 : kk = (0 : Int32)
      · refine own_go (fun t k => XS.ifNo X0.here hx rfl (hb hby at_145) rfl ((if0 _ _).trans (teq hc145).2) k) ?_
        refine own_go (fun t k => XS.iload X0.here hx rfl (hb hby at_148) rfl  k) ?_
        refine own_go (fun t k => XS.goto X0.here hx rfl (pc0 := 150) (pc' := 177) rfl (hb hby at_150) (by decide) (by decide) k) ?_
        exact J177_62 x0
      · refine own_go (fun t k => XS.ifYes X0.here hx rfl (pc0 := 145) (pc' := 153) rfl (hb hby at_145) rfl ((if0 _ _).trans (feq hc145).2) (by decide) (by decide) k) ?_
        refine own_go (fun t k => XS.iload X0.here hx rfl (hb hby at_153) rfl  k) ?_
        show own_Run p e below Φ (s₁.setTop (mkF m 155 #[.val (.int p1), .val (.int p2), .val (.int p3), .val (.int p4), .val (.int p5), .val (.int p6), .val (.int (1 : Int32)), .val (.long la), .second, .val (.long lb), .second, .val (.long lc), .second, .val (.long ld), .second, .val (.long lb), .second, .val (.int x0), .val (.int x1), .val (.int x2), .val (.int x3), .val (.int (((p5.toUInt32 >>> ((11 : Int32) &&& 31).toUInt32).toInt32) &&& (3 : Int32))), .val (.int kk), .unset, .unset, .unset, .unset, .unset, .unset] [(.int kk)]))
        refine own_go (fun t k => XS.iconst X0.here hx rfl (hb hby at_155) k) ?_
        by_cases hc156 : kk = (1 : Int32)
        · refine own_go (fun t k => XS.icmpNo X0.here hx rfl (hb hby at_156) rfl (teq hc156).2 k) ?_
          refine own_go (fun t k => XS.iload X0.here hx rfl (hb hby at_159) rfl  k) ?_
          refine own_go (fun t k => XS.goto X0.here hx rfl (pc0 := 161) (pc' := 177) rfl (hb hby at_161) (by decide) (by decide) k) ?_
          exact J177_62 x1
        · refine own_go (fun t k => XS.icmpYes X0.here hx rfl (pc0 := 156) (pc' := 164) rfl (hb hby at_156) rfl (feq hc156).2 (by decide) (by decide) k) ?_
          refine own_go (fun t k => XS.iload X0.here hx rfl (hb hby at_164) rfl  k) ?_
          show own_Run p e below Φ (s₁.setTop (mkF m 166 #[.val (.int p1), .val (.int p2), .val (.int p3), .val (.int p4), .val (.int p5), .val (.int p6), .val (.int (1 : Int32)), .val (.long la), .second, .val (.long lb), .second, .val (.long lc), .second, .val (.long ld), .second, .val (.long lb), .second, .val (.int x0), .val (.int x1), .val (.int x2), .val (.int x3), .val (.int (((p5.toUInt32 >>> ((11 : Int32) &&& 31).toUInt32).toInt32) &&& (3 : Int32))), .val (.int kk), .unset, .unset, .unset, .unset, .unset, .unset] [(.int kk)]))
          refine own_go (fun t k => XS.iconst X0.here hx rfl (hb hby at_166) k) ?_
          by_cases hc167 : kk = (2 : Int32)
          · refine own_go (fun t k => XS.icmpNo X0.here hx rfl (hb hby at_167) rfl (teq hc167).2 k) ?_
            refine own_go (fun t k => XS.iload X0.here hx rfl (hb hby at_170) rfl  k) ?_
            refine own_go (fun t k => XS.goto X0.here hx rfl (pc0 := 172) (pc' := 177) rfl (hb hby at_172) (by decide) (by decide) k) ?_
            exact J177_62 x2
          · refine own_go (fun t k => XS.icmpYes X0.here hx rfl (pc0 := 167) (pc' := 175) rfl (hb hby at_167) rfl (feq hc167).2 (by decide) (by decide) k) ?_
            refine own_go (fun t k => XS.iload X0.here hx rfl (hb hby at_175) rfl  k) ?_
            exact J177_62 x3
    show own_Run p e below Φ (s₁.setTop (mkF m 121 #[.val (.int p1), .val (.int p2), .val (.int p3), .val (.int p4), .val (.int p5), .val (.int p6), .val (.int (1 : Int32)), .val (.long la), .second, .val (.long lb), .second, .val (.long lc), .second, .val (.long ld), .second, .val (.long lb), .second, .val (.int x0), .val (.int x1), .val (.int x2), .val (.int x3), .val (.int (((p5.toUInt32 >>> ((11 : Int32) &&& 31).toUInt32).toInt32) &&& (3 : Int32))), .unset, .unset, .unset, .unset, .unset, .unset, .unset] []))
    refine own_go (fun t k => XS.iload X0.here hx rfl (hb hby at_121) rfl  k) ?_
    show own_Run p e below Φ (s₁.setTop (mkF m 123 #[.val (.int p1), .val (.int p2), .val (.int p3), .val (.int p4), .val (.int p5), .val (.int p6), .val (.int (1 : Int32)), .val (.long la), .second, .val (.long lb), .second, .val (.long lc), .second, .val (.long ld), .second, .val (.long lb), .second, .val (.int x0), .val (.int x1), .val (.int x2), .val (.int x3), .val (.int (((p5.toUInt32 >>> ((11 : Int32) &&& 31).toUInt32).toInt32) &&& (3 : Int32))), .unset, .unset, .unset, .unset, .unset, .unset, .unset] [(.int (1 : Int32))]))
    refine own_go (fun t k => XS.ifYes X0.here hx rfl (pc0 := 123) (pc' := 130) rfl (hb hby at_123) rfl ((if0 _ _).trans (feq (by decide : ¬ ((1 : Int32) = (0 : Int32)))).2) (by decide) (by decide) k) ?_
    refine own_go (fun t k => XS.iload X0.here hx rfl (hb hby at_130) rfl  k) ?_
    refine own_go (fun t k => XS.iconst X0.here hx rfl (hb hby at_132) k) ?_
    refine own_go (fun t k => XS.iushr X0.here hx rfl (hb hby at_133) rfl k) ?_
    refine own_go (fun t k => XS.sipush X0.here hx rfl (hb hby at_134) k) ?_
    show own_Run p e below Φ (s₁.setTop (mkF m 137 #[.val (.int p1), .val (.int p2), .val (.int p3), .val (.int p4), .val (.int p5), .val (.int p6), .val (.int (1 : Int32)), .val (.long la), .second, .val (.long lb), .second, .val (.long lc), .second, .val (.long ld), .second, .val (.long lb), .second, .val (.int x0), .val (.int x1), .val (.int x2), .val (.int x3), .val (.int (((p5.toUInt32 >>> ((11 : Int32) &&& 31).toUInt32).toInt32) &&& (3 : Int32))), .unset, .unset, .unset, .unset, .unset, .unset, .unset] [(.int (255 : Int32)), (.int ((p5.toUInt32 >>> ((3 : Int32) &&& 31).toUInt32).toInt32))]))
    refine own_go (fun t k => XS.iand X0.here hx rfl (hb hby at_137) rfl k) ?_
    refine own_go (fun t k => XS.iload X0.here hx rfl (hb hby at_138) rfl  k) ?_
    refine own_go (fun t k => Jvm.RoadKit.iremM X0 hx rfl (hb hby at_140) rfl (by decide) k) ?_
    exact J141_61 ((((p5.toUInt32 >>> ((3 : Int32) &&& 31).toUInt32).toInt32) &&& (255 : Int32)) % (1 : Int32))
  · rw [e1]
    show own_Run p e below Φ (s₁.setTop (mkF m 9 #[.val (.int p1), .val (.int p2), .val (.int p3), .val (.int p4), .val (.int p5), .val (.int p6), .val (.int (2 : Int32)), .unset, .unset, .unset, .unset, .unset, .unset, .unset, .unset, .unset, .unset, .unset, .unset, .unset, .unset, .unset, .unset, .unset, .unset, .unset, .unset, .unset, .unset] []))
    refine own_go (fun t k => XS.iloadN X0.here hx rfl (hb hby at_9) rfl  k) ?_
    refine own_go (fun t k => XS.i2l X0.here hx rfl (hb hby at_10) rfl k) ?_
    refine own_go (fun t k => XS.lstore X0.here hx rfl (hb hby at_11) rfl (l' := #[.val (.int p1), .val (.int p2), .val (.int p3), .val (.int p4), .val (.int p5), .val (.int p6), .val (.int (2 : Int32)), .val (.long (p1.toInt64)), .second, .unset, .unset, .unset, .unset, .unset, .unset, .unset, .unset, .unset, .unset, .unset, .unset, .unset, .unset, .unset, .unset, .unset, .unset, .unset, .unset]) rfl k) ?_
    show own_Run p e below Φ (s₁.setTop (mkF m 13 #[.val (.int p1), .val (.int p2), .val (.int p3), .val (.int p4), .val (.int p5), .val (.int p6), .val (.int (2 : Int32)), .val (.long (p1.toInt64)), .second, .unset, .unset, .unset, .unset, .unset, .unset, .unset, .unset, .unset, .unset, .unset, .unset, .unset, .unset, .unset, .unset, .unset, .unset, .unset, .unset] []))
    refine own_go (fun t k => XS.lload X0.here hx rfl (hb hby at_13) rfl  k) ?_
    refine own_go (fun t k => XS.lconst X0.here hx rfl (hb hby at_15) k) ?_
    refine own_go (fun t k => XS.ladd X0.here hx rfl (hb hby at_16) rfl k) ?_
    refine own_go (fun t k => XS.iloadN X0.here hx rfl (hb hby at_17) rfl  k) ?_
    refine own_go (X0.ldcInt hx hown (mvT hZ (hw _ (List.mem_of_getElem? (i := 0) rfl))) (g := (mkF m 18 #[.val (.int p1), .val (.int p2), .val (.int p3), .val (.int p4), .val (.int p5), .val (.int p6), .val (.int (2 : Int32)), .val (.long (p1.toInt64)), .second, .unset, .unset, .unset, .unset, .unset, .unset, .unset, .unset, .unset, .unset, .unset, .unset, .unset, .unset, .unset, .unset, .unset, .unset, .unset, .unset] [(.int p2), (.long ((p1.toInt64) + (1 : Int64)))])) rfl (hb hby at_18)) ?_
    show own_Run p e below Φ (s₁.setTop (mkF m 20 #[.val (.int p1), .val (.int p2), .val (.int p3), .val (.int p4), .val (.int p5), .val (.int p6), .val (.int (2 : Int32)), .val (.long (p1.toInt64)), .second, .unset, .unset, .unset, .unset, .unset, .unset, .unset, .unset, .unset, .unset, .unset, .unset, .unset, .unset, .unset, .unset, .unset, .unset, .unset, .unset] [(.int (65535 : Int32)), (.int p2), (.long ((p1.toInt64) + (1 : Int64)))]))
    refine own_go (fun t k => XS.iand X0.here hx rfl (hb hby at_20) rfl k) ?_
    refine own_go (fun t k => XS.i2l X0.here hx rfl (hb hby at_21) rfl k) ?_
    refine own_go (fun t k => XS.ladd X0.here hx rfl (hb hby at_22) rfl k) ?_
    refine own_go (fun t k => XS.lstore X0.here hx rfl (hb hby at_23) rfl (l' := #[.val (.int p1), .val (.int p2), .val (.int p3), .val (.int p4), .val (.int p5), .val (.int p6), .val (.int (2 : Int32)), .val (.long (p1.toInt64)), .second, .val (.long (((p1.toInt64) + (1 : Int64)) + ((p2 &&& (65535 : Int32)).toInt64))), .second, .unset, .unset, .unset, .unset, .unset, .unset, .unset, .unset, .unset, .unset, .unset, .unset, .unset, .unset, .unset, .unset, .unset, .unset]) rfl k) ?_
    refine own_go (fun t k => XS.lload X0.here hx rfl (hb hby at_25) rfl  k) ?_
    show own_Run p e below Φ (s₁.setTop (mkF m 27 #[.val (.int p1), .val (.int p2), .val (.int p3), .val (.int p4), .val (.int p5), .val (.int p6), .val (.int (2 : Int32)), .val (.long (p1.toInt64)), .second, .val (.long (((p1.toInt64) + (1 : Int64)) + ((p2 &&& (65535 : Int32)).toInt64))), .second, .unset, .unset, .unset, .unset, .unset, .unset, .unset, .unset, .unset, .unset, .unset, .unset, .unset, .unset, .unset, .unset, .unset, .unset] [(.long (((p1.toInt64) + (1 : Int64)) + ((p2 &&& (65535 : Int32)).toInt64)))]))
    refine own_go (fun t k => XS.lconst X0.here hx rfl (hb hby at_27) k) ?_
    refine own_go (fun t k => XS.ladd X0.here hx rfl (hb hby at_28) rfl k) ?_
    refine own_go (fun t k => XS.iloadN X0.here hx rfl (hb hby at_29) rfl  k) ?_
    refine own_go (X0.ldcInt hx hown (mvT hZ (hw _ (List.mem_of_getElem? (i := 0) rfl))) (g := (mkF m 30 #[.val (.int p1), .val (.int p2), .val (.int p3), .val (.int p4), .val (.int p5), .val (.int p6), .val (.int (2 : Int32)), .val (.long (p1.toInt64)), .second, .val (.long (((p1.toInt64) + (1 : Int64)) + ((p2 &&& (65535 : Int32)).toInt64))), .second, .unset, .unset, .unset, .unset, .unset, .unset, .unset, .unset, .unset, .unset, .unset, .unset, .unset, .unset, .unset, .unset, .unset, .unset] [(.int p3), (.long ((((p1.toInt64) + (1 : Int64)) + ((p2 &&& (65535 : Int32)).toInt64)) + (1 : Int64)))])) rfl (hb hby at_30)) ?_
    refine own_go (fun t k => XS.iand X0.here hx rfl (hb hby at_32) rfl k) ?_
    show own_Run p e below Φ (s₁.setTop (mkF m 33 #[.val (.int p1), .val (.int p2), .val (.int p3), .val (.int p4), .val (.int p5), .val (.int p6), .val (.int (2 : Int32)), .val (.long (p1.toInt64)), .second, .val (.long (((p1.toInt64) + (1 : Int64)) + ((p2 &&& (65535 : Int32)).toInt64))), .second, .unset, .unset, .unset, .unset, .unset, .unset, .unset, .unset, .unset, .unset, .unset, .unset, .unset, .unset, .unset, .unset, .unset, .unset] [(.int (p3 &&& (65535 : Int32))), (.long ((((p1.toInt64) + (1 : Int64)) + ((p2 &&& (65535 : Int32)).toInt64)) + (1 : Int64)))]))
    refine own_go (fun t k => XS.i2l X0.here hx rfl (hb hby at_33) rfl k) ?_
    refine own_go (fun t k => XS.ladd X0.here hx rfl (hb hby at_34) rfl k) ?_
    refine own_go (fun t k => XS.lstore X0.here hx rfl (hb hby at_35) rfl (l' := #[.val (.int p1), .val (.int p2), .val (.int p3), .val (.int p4), .val (.int p5), .val (.int p6), .val (.int (2 : Int32)), .val (.long (p1.toInt64)), .second, .val (.long (((p1.toInt64) + (1 : Int64)) + ((p2 &&& (65535 : Int32)).toInt64))), .second, .val (.long (((((p1.toInt64) + (1 : Int64)) + ((p2 &&& (65535 : Int32)).toInt64)) + (1 : Int64)) + ((p3 &&& (65535 : Int32)).toInt64))), .second, .unset, .unset, .unset, .unset, .unset, .unset, .unset, .unset, .unset, .unset, .unset, .unset, .unset, .unset, .unset, .unset]) rfl k) ?_
    refine own_go (fun t k => XS.lload X0.here hx rfl (hb hby at_37) rfl  k) ?_
    refine own_go (fun t k => XS.lconst X0.here hx rfl (hb hby at_39) k) ?_
    show own_Run p e below Φ (s₁.setTop (mkF m 40 #[.val (.int p1), .val (.int p2), .val (.int p3), .val (.int p4), .val (.int p5), .val (.int p6), .val (.int (2 : Int32)), .val (.long (p1.toInt64)), .second, .val (.long (((p1.toInt64) + (1 : Int64)) + ((p2 &&& (65535 : Int32)).toInt64))), .second, .val (.long (((((p1.toInt64) + (1 : Int64)) + ((p2 &&& (65535 : Int32)).toInt64)) + (1 : Int64)) + ((p3 &&& (65535 : Int32)).toInt64))), .second, .unset, .unset, .unset, .unset, .unset, .unset, .unset, .unset, .unset, .unset, .unset, .unset, .unset, .unset, .unset, .unset] [(.long (1 : Int64)), (.long (((((p1.toInt64) + (1 : Int64)) + ((p2 &&& (65535 : Int32)).toInt64)) + (1 : Int64)) + ((p3 &&& (65535 : Int32)).toInt64)))]))
    refine own_go (fun t k => XS.ladd X0.here hx rfl (hb hby at_40) rfl k) ?_
    refine own_go (fun t k => XS.iloadN X0.here hx rfl (hb hby at_41) rfl  k) ?_
    refine own_go (X0.ldcInt hx hown (mvT hZ (hw _ (List.mem_of_getElem? (i := 0) rfl))) (g := (mkF m 42 #[.val (.int p1), .val (.int p2), .val (.int p3), .val (.int p4), .val (.int p5), .val (.int p6), .val (.int (2 : Int32)), .val (.long (p1.toInt64)), .second, .val (.long (((p1.toInt64) + (1 : Int64)) + ((p2 &&& (65535 : Int32)).toInt64))), .second, .val (.long (((((p1.toInt64) + (1 : Int64)) + ((p2 &&& (65535 : Int32)).toInt64)) + (1 : Int64)) + ((p3 &&& (65535 : Int32)).toInt64))), .second, .unset, .unset, .unset, .unset, .unset, .unset, .unset, .unset, .unset, .unset, .unset, .unset, .unset, .unset, .unset, .unset] [(.int p4), (.long ((((((p1.toInt64) + (1 : Int64)) + ((p2 &&& (65535 : Int32)).toInt64)) + (1 : Int64)) + ((p3 &&& (65535 : Int32)).toInt64)) + (1 : Int64)))])) rfl (hb hby at_42)) ?_
    refine own_go (fun t k => XS.iand X0.here hx rfl (hb hby at_44) rfl k) ?_
    refine own_go (fun t k => XS.i2l X0.here hx rfl (hb hby at_45) rfl k) ?_
    show own_Run p e below Φ (s₁.setTop (mkF m 46 #[.val (.int p1), .val (.int p2), .val (.int p3), .val (.int p4), .val (.int p5), .val (.int p6), .val (.int (2 : Int32)), .val (.long (p1.toInt64)), .second, .val (.long (((p1.toInt64) + (1 : Int64)) + ((p2 &&& (65535 : Int32)).toInt64))), .second, .val (.long (((((p1.toInt64) + (1 : Int64)) + ((p2 &&& (65535 : Int32)).toInt64)) + (1 : Int64)) + ((p3 &&& (65535 : Int32)).toInt64))), .second, .unset, .unset, .unset, .unset, .unset, .unset, .unset, .unset, .unset, .unset, .unset, .unset, .unset, .unset, .unset, .unset] [(.long ((p4 &&& (65535 : Int32)).toInt64)), (.long ((((((p1.toInt64) + (1 : Int64)) + ((p2 &&& (65535 : Int32)).toInt64)) + (1 : Int64)) + ((p3 &&& (65535 : Int32)).toInt64)) + (1 : Int64)))]))
    refine own_go (fun t k => XS.ladd X0.here hx rfl (hb hby at_46) rfl k) ?_
    refine own_go (fun t k => XS.lstore X0.here hx rfl (hb hby at_47) rfl (l' := #[.val (.int p1), .val (.int p2), .val (.int p3), .val (.int p4), .val (.int p5), .val (.int p6), .val (.int (2 : Int32)), .val (.long (p1.toInt64)), .second, .val (.long (((p1.toInt64) + (1 : Int64)) + ((p2 &&& (65535 : Int32)).toInt64))), .second, .val (.long (((((p1.toInt64) + (1 : Int64)) + ((p2 &&& (65535 : Int32)).toInt64)) + (1 : Int64)) + ((p3 &&& (65535 : Int32)).toInt64))), .second, .val (.long (((((((p1.toInt64) + (1 : Int64)) + ((p2 &&& (65535 : Int32)).toInt64)) + (1 : Int64)) + ((p3 &&& (65535 : Int32)).toInt64)) + (1 : Int64)) + ((p4 &&& (65535 : Int32)).toInt64))), .second, .unset, .unset, .unset, .unset, .unset, .unset, .unset, .unset, .unset, .unset, .unset, .unset, .unset, .unset]) rfl k) ?_
    show own_Run p e below Φ (s₁.setTop (mkF m 49 #[.val (.int p1), .val (.int p2), .val (.int p3), .val (.int p4), .val (.int p5), .val (.int p6), .val (.int (2 : Int32)), .val (.long (p1.toInt64)), .second, .val (.long (((p1.toInt64) + (1 : Int64)) + ((p2 &&& (65535 : Int32)).toInt64))), .second, .val (.long (((((p1.toInt64) + (1 : Int64)) + ((p2 &&& (65535 : Int32)).toInt64)) + (1 : Int64)) + ((p3 &&& (65535 : Int32)).toInt64))), .second, .val (.long (((((((p1.toInt64) + (1 : Int64)) + ((p2 &&& (65535 : Int32)).toInt64)) + (1 : Int64)) + ((p3 &&& (65535 : Int32)).toInt64)) + (1 : Int64)) + ((p4 &&& (65535 : Int32)).toInt64))), .second, .unset, .unset, .unset, .unset, .unset, .unset, .unset, .unset, .unset, .unset, .unset, .unset, .unset, .unset] []))
    have r0 := rng32 p1
    have q0 := c_i2l p1
    generalize ela : (p1.toInt64) = la at q0 ⊢
    obtain ⟨qlb, mlb, wlb⟩ := own_up la p2 (by omega) (by omega)
    generalize elb : ((la + (1 : Int64)) + ((p2 &&& (65535 : Int32)).toInt64)) = lb at qlb ⊢
    obtain ⟨qlc, mlc, wlc⟩ := own_up lb p3 (by omega) (by omega)
    generalize elc : ((lb + (1 : Int64)) + ((p3 &&& (65535 : Int32)).toInt64)) = lc at qlc ⊢
    obtain ⟨qld, mld, wld⟩ := own_up lc p4 (by omega) (by omega)
    generalize eld : ((lc + (1 : Int64)) + ((p4 &&& (65535 : Int32)).toInt64)) = ld at qld ⊢
    show own_Run p e below Φ (s₁.setTop (mkF m 49 #[.val (.int p1), .val (.int p2), .val (.int p3), .val (.int p4), .val (.int p5), .val (.int p6), .val (.int (2 : Int32)), .val (.long la), .second, .val (.long lb), .second, .val (.long lc), .second, .val (.long ld), .second, .unset, .unset, .unset, .unset, .unset, .unset, .unset, .unset, .unset, .unset, .unset, .unset, .unset, .unset] []))
    refine own_go (fun t k => XS.iload X0.here hx rfl (hb hby at_49) rfl  k) ?_
    refine own_go (fun t k => XS.iconst X0.here hx rfl (hb hby at_51) k) ?_
    refine own_go (fun t k => XS.icmpYes X0.here hx rfl (pc0 := 52) (pc' := 60) rfl (hb hby at_52) rfl (feq (by decide : ¬ ((2 : Int32) = (4 : Int32)))).2 (by decide) (by decide) k) ?_
    refine own_go (fun t k => XS.iload X0.here hx rfl (hb hby at_60) rfl  k) ?_
    refine own_go (fun t k => XS.iconst X0.here hx rfl (hb hby at_62) k) ?_
    show own_Run p e below Φ (s₁.setTop (mkF m 63 #[.val (.int p1), .val (.int p2), .val (.int p3), .val (.int p4), .val (.int p5), .val (.int p6), .val (.int (2 : Int32)), .val (.long la), .second, .val (.long lb), .second, .val (.long lc), .second, .val (.long ld), .second, .unset, .unset, .unset, .unset, .unset, .unset, .unset, .unset, .unset, .unset, .unset, .unset, .unset, .unset] [(.int (3 : Int32)), (.int (2 : Int32))]))
    refine own_go (fun t k => XS.icmpYes X0.here hx rfl (pc0 := 63) (pc' := 71) rfl (hb hby at_63) rfl (feq (by decide : ¬ ((2 : Int32) = (3 : Int32)))).2 (by decide) (by decide) k) ?_
    refine own_go (fun t k => XS.lload X0.here hx rfl (hb hby at_71) rfl  k) ?_
    refine own_go (fun t k => XS.lstore X0.here hx rfl (hb hby at_73) rfl (l' := #[.val (.int p1), .val (.int p2), .val (.int p3), .val (.int p4), .val (.int p5), .val (.int p6), .val (.int (2 : Int32)), .val (.long la), .second, .val (.long lb), .second, .val (.long lc), .second, .val (.long ld), .second, .val (.long lb), .second, .unset, .unset, .unset, .unset, .unset, .unset, .unset, .unset, .unset, .unset, .unset, .unset]) rfl k) ?_
    refine own_go (fun t k => XS.iload X0.here hx rfl (hb hby at_75) rfl  k) ?_
    refine own_go (fun t k => XS.iconst X0.here hx rfl (hb hby at_77) k) ?_
    show own_Run p e below Φ (s₁.setTop (mkF m 78 #[.val (.int p1), .val (.int p2), .val (.int p3), .val (.int p4), .val (.int p5), .val (.int p6), .val (.int (2 : Int32)), .val (.long la), .second, .val (.long lb), .second, .val (.long lc), .second, .val (.long ld), .second, .val (.long lb), .second, .unset, .unset, .unset, .unset, .unset, .unset, .unset, .unset, .unset, .unset, .unset, .unset] [(.int (2 : Int32)), (.int (2 : Int32))]))
    refine own_go (fun t k => XS.icmpNo X0.here hx rfl (hb hby at_78) rfl (flt (by decide : ¬ ((2 : Int32) < (2 : Int32)))).1 k) ?_
    refine own_go (fun t k => XS.lload X0.here hx rfl (hb hby at_81) rfl  k) ?_
    refine own_go (X0.ldc2Long hx hown (mvT hZ (hw _ (List.mem_of_getElem? (i := 32) rfl))) (g := (mkF m 83 #[.val (.int p1), .val (.int p2), .val (.int p3), .val (.int p4), .val (.int p5), .val (.int p6), .val (.int (2 : Int32)), .val (.long la), .second, .val (.long lb), .second, .val (.long lc), .second, .val (.long ld), .second, .val (.long lb), .second, .unset, .unset, .unset, .unset, .unset, .unset, .unset, .unset, .unset, .unset, .unset, .unset] [(.long lb)])) rfl (hb hby at_83)) ?_
    refine own_go (fun t k => XS.lcmp X0.here hx rfl (hb hby at_86) rfl k) ?_
    by_cases hc87 : (0 : Int32) < (lcmpW lb (2147483647 : Int64))
    · refine own_go (fun t k => XS.ifNo X0.here hx rfl (hb hby at_87) rfl ((if0 _ _).trans (tlt hc87).2.2.2) k) ?_
      show own_Run p e below Φ (s₁.setTop (mkF m 90 #[.val (.int p1), .val (.int p2), .val (.int p3), .val (.int p4), .val (.int p5), .val (.int p6), .val (.int (2 : Int32)), .val (.long la), .second, .val (.long lb), .second, .val (.long lc), .second, .val (.long ld), .second, .val (.long lb), .second, .unset, .unset, .unset, .unset, .unset, .unset, .unset, .unset, .unset, .unset, .unset, .unset] []))
      refine own_go (fun t k => XS.iconst X0.here hx rfl (hb hby at_90) k) ?_
      subst hΦ
      exact own_retN X0 hx (t := .boolean) Bd.returns (by simp) hlk (hb hby at_91) e0 ⟨rfl, N0⟩ (by decide) (by decide)
    · refine own_go (fun t k => XS.ifYes X0.here hx rfl (pc0 := 87) (pc' := 92) rfl (hb hby at_87) rfl ((if0 _ _).trans (flt hc87).2.2.2) (by decide) (by decide) k) ?_
      refine own_go (fun t k => XS.lload X0.here hx rfl (hb hby at_92) rfl  k) ?_
      refine own_go (fun t k => XS.l2i X0.here hx rfl (hb hby at_94) rfl k) ?_
      refine own_go (fun t k => XS.istore X0.here hx rfl (hb hby at_95) rfl (l' := #[.val (.int p1), .val (.int p2), .val (.int p3), .val (.int p4), .val (.int p5), .val (.int p6), .val (.int (2 : Int32)), .val (.long la), .second, .val (.long lb), .second, .val (.long lc), .second, .val (.long ld), .second, .val (.long lb), .second, .val (.int (la.toInt32)), .unset, .unset, .unset, .unset, .unset, .unset, .unset, .unset, .unset, .unset, .unset]) rfl k) ?_
      show own_Run p e below Φ (s₁.setTop (mkF m 97 #[.val (.int p1), .val (.int p2), .val (.int p3), .val (.int p4), .val (.int p5), .val (.int p6), .val (.int (2 : Int32)), .val (.long la), .second, .val (.long lb), .second, .val (.long lc), .second, .val (.long ld), .second, .val (.long lb), .second, .val (.int (la.toInt32)), .unset, .unset, .unset, .unset, .unset, .unset, .unset, .unset, .unset, .unset, .unset] []))
      refine own_go (fun t k => XS.lload X0.here hx rfl (hb hby at_97) rfl  k) ?_
      refine own_go (fun t k => XS.l2i X0.here hx rfl (hb hby at_99) rfl k) ?_
      refine own_go (fun t k => XS.istore X0.here hx rfl (hb hby at_100) rfl (l' := #[.val (.int p1), .val (.int p2), .val (.int p3), .val (.int p4), .val (.int p5), .val (.int p6), .val (.int (2 : Int32)), .val (.long la), .second, .val (.long lb), .second, .val (.long lc), .second, .val (.long ld), .second, .val (.long lb), .second, .val (.int (la.toInt32)), .val (.int (lb.toInt32)), .unset, .unset, .unset, .unset, .unset, .unset, .unset, .unset, .unset, .unset]) rfl k) ?_
      refine own_go (fun t k => XS.lload X0.here hx rfl (hb hby at_102) rfl  k) ?_
      refine own_go (fun t k => XS.l2i X0.here hx rfl (hb hby at_104) rfl k) ?_
      show own_Run p e below Φ (s₁.setTop (mkF m 105 #[.val (.int p1), .val (.int p2), .val (.int p3), .val (.int p4), .val (.int p5), .val (.int p6), .val (.int (2 : Int32)), .val (.long la), .second, .val (.long lb), .second, .val (.long lc), .second, .val (.long ld), .second, .val (.long lb), .second, .val (.int (la.toInt32)), .val (.int (lb.toInt32)), .unset, .unset, .unset, .unset, .unset, .unset, .unset, .unset, .unset, .unset] [(.int (lc.toInt32))]))
      refine own_go (fun t k => XS.istore X0.here hx rfl (hb hby at_105) rfl (l' := #[.val (.int p1), .val (.int p2), .val (.int p3), .val (.int p4), .val (.int p5), .val (.int p6), .val (.int (2 : Int32)), .val (.long la), .second, .val (.long lb), .second, .val (.long lc), .second, .val (.long ld), .second, .val (.long lb), .second, .val (.int (la.toInt32)), .val (.int (lb.toInt32)), .val (.int (lc.toInt32)), .unset, .unset, .unset, .unset, .unset, .unset, .unset, .unset, .unset]) rfl k) ?_
      refine own_go (fun t k => XS.lload X0.here hx rfl (hb hby at_107) rfl  k) ?_
      refine own_go (fun t k => XS.l2i X0.here hx rfl (hb hby at_109) rfl k) ?_
      refine own_go (fun t k => XS.istore X0.here hx rfl (hb hby at_110) rfl (l' := #[.val (.int p1), .val (.int p2), .val (.int p3), .val (.int p4), .val (.int p5), .val (.int p6), .val (.int (2 : Int32)), .val (.long la), .second, .val (.long lb), .second, .val (.long lc), .second, .val (.long ld), .second, .val (.long lb), .second, .val (.int (la.toInt32)), .val (.int (lb.toInt32)), .val (.int (lc.toInt32)), .val (.int (ld.toInt32)), .unset, .unset, .unset, .unset, .unset, .unset, .unset, .unset]) rfl k) ?_
      show own_Run p e below Φ (s₁.setTop (mkF m 112 #[.val (.int p1), .val (.int p2), .val (.int p3), .val (.int p4), .val (.int p5), .val (.int p6), .val (.int (2 : Int32)), .val (.long la), .second, .val (.long lb), .second, .val (.long lc), .second, .val (.long ld), .second, .val (.long lb), .second, .val (.int (la.toInt32)), .val (.int (lb.toInt32)), .val (.int (lc.toInt32)), .val (.int (ld.toInt32)), .unset, .unset, .unset, .unset, .unset, .unset, .unset, .unset] []))
      have top := own_top _ hc87
      have d0 := own_dn la (by omega) (by omega)
      generalize ed0 : la.toInt32 = x0 at d0 ⊢
      have d1 := own_dn lb (by omega) (by omega)
      generalize ed1 : lb.toInt32 = x1 at d1 ⊢
      generalize ed2 : lc.toInt32 = x2
      generalize ed3 : ld.toInt32 = x3
      have J230_63 : ∀ (q : Int32) (m1 : Int32) (m2 : Int32) (m3 : Int32), own_Run p e below Φ (s₁.setTop (mkF m 230 #[.val (.int p1), .val (.int p2), .val (.int p3), .val (.int p4), .val (.int p5), .val (.int p6), .val (.int (2 : Int32)), .val (.long la), .second, .val (.long lb), .second, .val (.long lc), .second, .val (.long ld), .second, .val (.long lb), .second, .val (.int x0), .val (.int x1), .val (.int x2), .val (.int x3), .val (.int m1), .val (.int m2), .val (.int m3), .val (.int q), .unset, .unset, .unset, .unset] [])) := by
        intro q m1 m2 m3
        show own_Run p e below Φ (s₁.setTop (mkF m 230 #[.val (.int p1), .val (.int p2), .val (.int p3), .val (.int p4), .val (.int p5), .val (.int p6), .val (.int (2 : Int32)), .val (.long la), .second, .val (.long lb), .second, .val (.long lc), .second, .val (.long ld), .second, .val (.long lb), .second, .val (.int x0), .val (.int x1), .val (.int x2), .val (.int x3), .val (.int m1), .val (.int m2), .val (.int m3), .val (.int q), .unset, .unset, .unset, .unset] []))
        refine own_go (fun t k => XS.iconst X0.here hx rfl (hb hby at_230) k) ?_
        refine own_newP X0 hx hZ (hw _ (List.mem_of_getElem? (i := 1) rfl)) e0 (g := (mkF m 231 #[.val (.int p1), .val (.int p2), .val (.int p3), .val (.int p4), .val (.int p5), .val (.int p6), .val (.int (2 : Int32)), .val (.long la), .second, .val (.long lb), .second, .val (.long lc), .second, .val (.long ld), .second, .val (.long lb), .second, .val (.int x0), .val (.int x1), .val (.int x2), .val (.int x3), .val (.int m1), .val (.int m2), .val (.int m3), .val (.int q), .unset, .unset, .unset, .unset] [(.int (5 : Int32))])) rfl (hb hby at_231) rfl (by decide) 5 (by decide) (by decide) (by decide) (by decide) 5 (fun T64 h64 k64 b64 X64 e64 E64 g64 V64 => ?_)
        replace V64 : Arv Z h64 b64 k64 .int (5 : Int32) [(.int (0 : Int32)), (.int (0 : Int32)), (.int (0 : Int32)), (.int (0 : Int32)), (.int (0 : Int32))] (.int (0 : Int32)) := V64
        refine own_go (fun t k => XS.astore X64.here hx rfl (hb hby at_233) rfl rfl (l' := #[.val (.int p1), .val (.int p2), .val (.int p3), .val (.int p4), .val (.int p5), .val (.int p6), .val (.int (2 : Int32)), .val (.long la), .second, .val (.long lb), .second, .val (.long lc), .second, .val (.long ld), .second, .val (.long lb), .second, .val (.int x0), .val (.int x1), .val (.int x2), .val (.int x3), .val (.int m1), .val (.int m2), .val (.int m3), .val (.int q), .val (.ref b64), .unset, .unset, .unset]) rfl k) ?_
        refine own_go (fun t k => XS.iconst X64.here hx rfl (hb hby at_235) k) ?_
        have F67 : n0 ≤ h64.size := (Nat.le_trans Z0 E64.1)
        refine own_newP X64 hx hZ (hw _ (List.mem_of_getElem? (i := 1) rfl)) e64 (g := (mkF m 236 #[.val (.int p1), .val (.int p2), .val (.int p3), .val (.int p4), .val (.int p5), .val (.int p6), .val (.int (2 : Int32)), .val (.long la), .second, .val (.long lb), .second, .val (.long lc), .second, .val (.long ld), .second, .val (.long lb), .second, .val (.int x0), .val (.int x1), .val (.int x2), .val (.int x3), .val (.int m1), .val (.int m2), .val (.int m3), .val (.int q), .val (.ref b64), .unset, .unset, .unset] [(.int (5 : Int32))])) rfl (hb hby at_236) rfl (by decide) 5 (by decide) (by decide) (by decide) (by decide) 5 (fun T66 h66 k66 b66 X66 e66 E66 g66 V66 => ?_)
        have ne_b64_b66 : b64 ≠ b66 := Nat.ne_of_lt (Nat.lt_of_lt_of_le V64.lt (Nat.le_of_eq g66.symm))
        replace V66 : Arv Z h66 b66 k66 .int (5 : Int32) [(.int (0 : Int32)), (.int (0 : Int32)), (.int (0 : Int32)), (.int (0 : Int32)), (.int (0 : Int32))] (.int (0 : Int32)) := V66
        show own_Run p e below Φ (T66.setTop (mkF m 238 #[.val (.int p1), .val (.int p2), .val (.int p3), .val (.int p4), .val (.int p5), .val (.int p6), .val (.int (2 : Int32)), .val (.long la), .second, .val (.long lb), .second, .val (.long lc), .second, .val (.long ld), .second, .val (.long lb), .second, .val (.int x0), .val (.int x1), .val (.int x2), .val (.int x3), .val (.int m1), .val (.int m2), .val (.int m3), .val (.int q), .val (.ref b64), .unset, .unset, .unset] [(.ref b66)]))
        refine own_go (fun t k => XS.astore X66.here hx rfl (hb hby at_238) rfl rfl (l' := #[.val (.int p1), .val (.int p2), .val (.int p3), .val (.int p4), .val (.int p5), .val (.int p6), .val (.int (2 : Int32)), .val (.long la), .second, .val (.long lb), .second, .val (.long lc), .second, .val (.long ld), .second, .val (.long lb), .second, .val (.int x0), .val (.int x1), .val (.int x2), .val (.int x3), .val (.int m1), .val (.int m2), .val (.int m3), .val (.int q), .val (.ref b64), .val (.ref b66), .unset, .unset]) rfl k) ?_
        refine own_go (fun t k => XS.aload X66.here hx rfl (hb hby at_240) rfl rfl  k) ?_
        refine own_go (fun t k => XS.iconst X66.here hx rfl (hb hby at_242) k) ?_
        refine own_go (fun t k => XS.iload X66.here hx rfl (hb hby at_243) rfl  k) ?_
        refine own_go (fun t k => XS.ifNo X66.here hx rfl (hb hby at_245) rfl ((if0 _ _).trans (tlt (by decide : (0 : Int32) < (2 : Int32))).2.2.2) k) ?_
        show own_Run p e below Φ (T66.setTop (mkF m 248 #[.val (.int p1), .val (.int p2), .val (.int p3), .val (.int p4), .val (.int p5), .val (.int p6), .val (.int (2 : Int32)), .val (.long la), .second, .val (.long lb), .second, .val (.long lc), .second, .val (.long ld), .second, .val (.long lb), .second, .val (.int x0), .val (.int x1), .val (.int x2), .val (.int x3), .val (.int m1), .val (.int m2), .val (.int m3), .val (.int q), .val (.ref b64), .val (.ref b66), .unset, .unset] [(.int (0 : Int32)), (.ref b64)]))
        refine own_go (fun t k => XS.iload X66.here hx rfl (hb hby at_248) rfl  k) ?_
        refine own_go (fun t k => XS.goto X66.here hx rfl (pc0 := 250) (pc' := 255) rfl (hb hby at_250) (by decide) (by decide) k) ?_
        have F69 : Arv Z h66 b64 k64 .int (5 : Int32) [(.int (0 : Int32)), (.int (0 : Int32)), (.int (0 : Int32)), (.int (0 : Int32)), (.int (0 : Int32))] (.int (0 : Int32)) := (V64.ext E66)
        refine own_iastore X66 hx hZ e66 F69 (j := (0 : Int32)) ⟨by decide, by decide⟩ 0 rfl (Nat.le_of_ble_eq_true rfl) (g := (mkF m 255 #[.val (.int p1), .val (.int p2), .val (.int p3), .val (.int p4), .val (.int p5), .val (.int p6), .val (.int (2 : Int32)), .val (.long la), .second, .val (.long lb), .second, .val (.long lc), .second, .val (.long ld), .second, .val (.long lb), .second, .val (.int x0), .val (.int x1), .val (.int x2), .val (.int x3), .val (.int m1), .val (.int m2), .val (.int m3), .val (.int q), .val (.ref b64), .val (.ref b66), .unset, .unset] [(.int x0), (.int (0 : Int32)), (.ref b64)])) rfl rfl (hb hby at_255) (fun T70 h70 X70 e70 W70 V70 => ?_)
        replace V70 : Arv Z h70 b64 k64 .int (5 : Int32) [(.int x0), (.int (0 : Int32)), (.int (0 : Int32)), (.int (0 : Int32)), (.int (0 : Int32))] (.int (0 : Int32)) := V70
        have N70 := Fr.snoc X70 N0 (Nat.le_trans Z0 (Nat.le_of_eq g64.symm))
        refine own_go (fun t k => XS.aload X70.here hx rfl (hb hby at_256) rfl rfl  k) ?_
        refine own_go (fun t k => XS.iconst X70.here hx rfl (hb hby at_258) k) ?_
        show own_Run p e below Φ (T70.setTop (mkF m 259 #[.val (.int p1), .val (.int p2), .val (.int p3), .val (.int p4), .val (.int p5), .val (.int p6), .val (.int (2 : Int32)), .val (.long la), .second, .val (.long lb), .second, .val (.long lc), .second, .val (.long ld), .second, .val (.long lb), .second, .val (.int x0), .val (.int x1), .val (.int x2), .val (.int x3), .val (.int m1), .val (.int m2), .val (.int m3), .val (.int q), .val (.ref b64), .val (.ref b66), .unset, .unset] [(.int (1 : Int32)), (.ref b64)]))
        refine own_go (fun t k => XS.iload X70.here hx rfl (hb hby at_259) rfl  k) ?_
        refine own_go (fun t k => XS.iconst X70.here hx rfl (hb hby at_261) k) ?_
        refine own_go (fun t k => XS.icmpNo X70.here hx rfl (hb hby at_262) rfl (tlt (by decide : (1 : Int32) < (2 : Int32))).2.2.2 k) ?_
        refine own_go (fun t k => XS.iload X70.here hx rfl (hb hby at_265) rfl  k) ?_
        refine own_go (fun t k => XS.goto X70.here hx rfl (pc0 := 267) (pc' := 272) rfl (hb hby at_267) (by decide) (by decide) k) ?_
        show own_Run p e below Φ (T70.setTop (mkF m 272 #[.val (.int p1), .val (.int p2), .val (.int p3), .val (.int p4), .val (.int p5), .val (.int p6), .val (.int (2 : Int32)), .val (.long la), .second, .val (.long lb), .second, .val (.long lc), .second, .val (.long ld), .second, .val (.long lb), .second, .val (.int x0), .val (.int x1), .val (.int x2), .val (.int x3), .val (.int m1), .val (.int m2), .val (.int m3), .val (.int q), .val (.ref b64), .val (.ref b66), .unset, .unset] [(.int x1), (.int (1 : Int32)), (.ref b64)]))
        refine own_iastore X70 hx hZ e70 V70 (j := (1 : Int32)) ⟨by decide, by decide⟩ 1 rfl (Nat.le_of_ble_eq_true rfl) (g := (mkF m 272 #[.val (.int p1), .val (.int p2), .val (.int p3), .val (.int p4), .val (.int p5), .val (.int p6), .val (.int (2 : Int32)), .val (.long la), .second, .val (.long lb), .second, .val (.long lc), .second, .val (.long ld), .second, .val (.long lb), .second, .val (.int x0), .val (.int x1), .val (.int x2), .val (.int x3), .val (.int m1), .val (.int m2), .val (.int m3), .val (.int q), .val (.ref b64), .val (.ref b66), .unset, .unset] [(.int x1), (.int (1 : Int32)), (.ref b64)])) rfl rfl (hb hby at_272) (fun T71 h71 X71 e71 W71 V71 => ?_)
        replace V71 : Arv Z h71 b64 k64 .int (5 : Int32) [(.int x0), (.int x1), (.int (0 : Int32)), (.int (0 : Int32)), (.int (0 : Int32))] (.int (0 : Int32)) := V71
        have N71 := Fr.snoc X71 N70 (Nat.le_trans Z0 (Nat.le_of_eq g64.symm))
        refine own_go (fun t k => XS.aload X71.here hx rfl (hb hby at_273) rfl rfl  k) ?_
        refine own_go (fun t k => XS.iconst X71.here hx rfl (hb hby at_275) k) ?_
        refine own_go (fun t k => XS.iload X71.here hx rfl (hb hby at_276) rfl  k) ?_
        refine own_go (fun t k => XS.iconst X71.here hx rfl (hb hby at_278) k) ?_
        show own_Run p e below Φ (T71.setTop (mkF m 279 #[.val (.int p1), .val (.int p2), .val (.int p3), .val (.int p4), .val (.int p5), .val (.int p6), .val (.int (2 : Int32)), .val (.long la), .second, .val (.long lb), .second, .val (.long lc), .second, .val (.long ld), .second, .val (.long lb), .second, .val (.int x0), .val (.int x1), .val (.int x2), .val (.int x3), .val (.int m1), .val (.int m2), .val (.int m3), .val (.int q), .val (.ref b64), .val (.ref b66), .unset, .unset] [(.int (2 : Int32)), (.int (2 : Int32)), (.int (2 : Int32)), (.ref b64)]))
        refine own_go (fun t k => XS.icmpYes X71.here hx rfl (pc0 := 279) (pc' := 287) rfl (hb hby at_279) rfl (flt (by decide : ¬ ((2 : Int32) < (2 : Int32)))).2.2.2 (by decide) (by decide) k) ?_
        refine own_go (fun t k => XS.iload X71.here hx rfl (hb hby at_287) rfl  k) ?_
        refine own_iastore X71 hx hZ e71 V71 (j := (2 : Int32)) ⟨by decide, by decide⟩ 2 rfl (Nat.le_of_ble_eq_true rfl) (g := (mkF m 289 #[.val (.int p1), .val (.int p2), .val (.int p3), .val (.int p4), .val (.int p5), .val (.int p6), .val (.int (2 : Int32)), .val (.long la), .second, .val (.long lb), .second, .val (.long lc), .second, .val (.long ld), .second, .val (.long lb), .second, .val (.int x0), .val (.int x1), .val (.int x2), .val (.int x3), .val (.int m1), .val (.int m2), .val (.int m3), .val (.int q), .val (.ref b64), .val (.ref b66), .unset, .unset] [(.int q), (.int (2 : Int32)), (.ref b64)])) rfl rfl (hb hby at_289) (fun T72 h72 X72 e72 W72 V72 => ?_)
        replace V72 : Arv Z h72 b64 k64 .int (5 : Int32) [(.int x0), (.int x1), (.int q), (.int (0 : Int32)), (.int (0 : Int32))] (.int (0 : Int32)) := V72
        have N72 := Fr.snoc X72 N71 (Nat.le_trans Z0 (Nat.le_of_eq g64.symm))
        refine own_go (fun t k => XS.aload X72.here hx rfl (hb hby at_290) rfl rfl  k) ?_
        refine own_go (fun t k => XS.iconst X72.here hx rfl (hb hby at_292) k) ?_
        show own_Run p e below Φ (T72.setTop (mkF m 293 #[.val (.int p1), .val (.int p2), .val (.int p3), .val (.int p4), .val (.int p5), .val (.int p6), .val (.int (2 : Int32)), .val (.long la), .second, .val (.long lb), .second, .val (.long lc), .second, .val (.long ld), .second, .val (.long lb), .second, .val (.int x0), .val (.int x1), .val (.int x2), .val (.int x3), .val (.int m1), .val (.int m2), .val (.int m3), .val (.int q), .val (.ref b64), .val (.ref b66), .unset, .unset] [(.int (3 : Int32)), (.ref b64)]))
        refine own_go (fun t k => XS.iload X72.here hx rfl (hb hby at_293) rfl  k) ?_
        refine own_go (fun t k => XS.iconst X72.here hx rfl (hb hby at_295) k) ?_
        refine own_go (fun t k => XS.icmpYes X72.here hx rfl (pc0 := 296) (pc' := 304) rfl (hb hby at_296) rfl (flt (by decide : ¬ ((3 : Int32) < (2 : Int32)))).2.2.2 (by decide) (by decide) k) ?_
        refine own_go (fun t k => XS.iload X72.here hx rfl (hb hby at_304) rfl  k) ?_
        refine own_iastore X72 hx hZ e72 V72 (j := (3 : Int32)) ⟨by decide, by decide⟩ 3 rfl (Nat.le_of_ble_eq_true rfl) (g := (mkF m 306 #[.val (.int p1), .val (.int p2), .val (.int p3), .val (.int p4), .val (.int p5), .val (.int p6), .val (.int (2 : Int32)), .val (.long la), .second, .val (.long lb), .second, .val (.long lc), .second, .val (.long ld), .second, .val (.long lb), .second, .val (.int x0), .val (.int x1), .val (.int x2), .val (.int x3), .val (.int m1), .val (.int m2), .val (.int m3), .val (.int q), .val (.ref b64), .val (.ref b66), .unset, .unset] [(.int q), (.int (3 : Int32)), (.ref b64)])) rfl rfl (hb hby at_306) (fun T73 h73 X73 e73 W73 V73 => ?_)
        replace V73 : Arv Z h73 b64 k64 .int (5 : Int32) [(.int x0), (.int x1), (.int q), (.int q), (.int (0 : Int32))] (.int (0 : Int32)) := V73
        have N73 := Fr.snoc X73 N72 (Nat.le_trans Z0 (Nat.le_of_eq g64.symm))
        show own_Run p e below Φ (T73.setTop (mkF m 307 #[.val (.int p1), .val (.int p2), .val (.int p3), .val (.int p4), .val (.int p5), .val (.int p6), .val (.int (2 : Int32)), .val (.long la), .second, .val (.long lb), .second, .val (.long lc), .second, .val (.long ld), .second, .val (.long lb), .second, .val (.int x0), .val (.int x1), .val (.int x2), .val (.int x3), .val (.int m1), .val (.int m2), .val (.int m3), .val (.int q), .val (.ref b64), .val (.ref b66), .unset, .unset] []))
        refine own_go (fun t k => XS.aload X73.here hx rfl (hb hby at_307) rfl rfl  k) ?_
        refine own_go (fun t k => XS.iconst X73.here hx rfl (hb hby at_309) k) ?_
        refine own_go (fun t k => XS.iload X73.here hx rfl (hb hby at_310) rfl  k) ?_
        refine own_iastore X73 hx hZ e73 V73 (j := (4 : Int32)) ⟨by decide, by decide⟩ 4 rfl (Nat.le_of_ble_eq_true rfl) (g := (mkF m 312 #[.val (.int p1), .val (.int p2), .val (.int p3), .val (.int p4), .val (.int p5), .val (.int p6), .val (.int (2 : Int32)), .val (.long la), .second, .val (.long lb), .second, .val (.long lc), .second, .val (.long ld), .second, .val (.long lb), .second, .val (.int x0), .val (.int x1), .val (.int x2), .val (.int x3), .val (.int m1), .val (.int m2), .val (.int m3), .val (.int q), .val (.ref b64), .val (.ref b66), .unset, .unset] [(.int q), (.int (4 : Int32)), (.ref b64)])) rfl rfl (hb hby at_312) (fun T74 h74 X74 e74 W74 V74 => ?_)
        replace V74 : Arv Z h74 b64 k64 .int (5 : Int32) [(.int x0), (.int x1), (.int q), (.int q), (.int q)] (.int (0 : Int32)) := V74
        have N74 := Fr.snoc X74 N73 (Nat.le_trans Z0 (Nat.le_of_eq g64.symm))
        refine own_go (fun t k => XS.aload X74.here hx rfl (hb hby at_313) rfl rfl  k) ?_
        show own_Run p e below Φ (T74.setTop (mkF m 315 #[.val (.int p1), .val (.int p2), .val (.int p3), .val (.int p4), .val (.int p5), .val (.int p6), .val (.int (2 : Int32)), .val (.long la), .second, .val (.long lb), .second, .val (.long lc), .second, .val (.long ld), .second, .val (.long lb), .second, .val (.int x0), .val (.int x1), .val (.int x2), .val (.int x3), .val (.int m1), .val (.int m2), .val (.int m3), .val (.int q), .val (.ref b64), .val (.ref b66), .unset, .unset] [(.ref b66)]))
        refine own_go (fun t k => XS.iconst X74.here hx rfl (hb hby at_315) k) ?_
        refine own_go (fun t k => XS.iconst X74.here hx rfl (hb hby at_316) k) ?_
        have F75 : Arv Z h74 b66 k66 .int (5 : Int32) [(.int (0 : Int32)), (.int (0 : Int32)), (.int (0 : Int32)), (.int (0 : Int32)), (.int (0 : Int32))] (.int (0 : Int32)) := (((((V66.other W70 (Ne.symm ne_b64_b66)).other W71 (Ne.symm ne_b64_b66)).other W72 (Ne.symm ne_b64_b66)).other W73 (Ne.symm ne_b64_b66)).other W74 (Ne.symm ne_b64_b66))
        refine own_iastore X74 hx hZ e74 F75 (j := (0 : Int32)) ⟨by decide, by decide⟩ 0 rfl (Nat.le_of_ble_eq_true rfl) (g := (mkF m 317 #[.val (.int p1), .val (.int p2), .val (.int p3), .val (.int p4), .val (.int p5), .val (.int p6), .val (.int (2 : Int32)), .val (.long la), .second, .val (.long lb), .second, .val (.long lc), .second, .val (.long ld), .second, .val (.long lb), .second, .val (.int x0), .val (.int x1), .val (.int x2), .val (.int x3), .val (.int m1), .val (.int m2), .val (.int m3), .val (.int q), .val (.ref b64), .val (.ref b66), .unset, .unset] [(.int (1 : Int32)), (.int (0 : Int32)), (.ref b66)])) rfl rfl (hb hby at_317) (fun T76 h76 X76 e76 W76 V76 => ?_)
        replace V76 : Arv Z h76 b66 k66 .int (5 : Int32) [(.int (1 : Int32)), (.int (0 : Int32)), (.int (0 : Int32)), (.int (0 : Int32)), (.int (0 : Int32))] (.int (0 : Int32)) := V76
        have N76 := Fr.snoc X76 N74 (Nat.le_trans F67 (Nat.le_of_eq g66.symm))
        refine own_go (fun t k => XS.aload X76.here hx rfl (hb hby at_318) rfl rfl  k) ?_
        refine own_go (fun t k => XS.iconst X76.here hx rfl (hb hby at_320) k) ?_
        show own_Run p e below Φ (T76.setTop (mkF m 321 #[.val (.int p1), .val (.int p2), .val (.int p3), .val (.int p4), .val (.int p5), .val (.int p6), .val (.int (2 : Int32)), .val (.long la), .second, .val (.long lb), .second, .val (.long lc), .second, .val (.long ld), .second, .val (.long lb), .second, .val (.int x0), .val (.int x1), .val (.int x2), .val (.int x3), .val (.int m1), .val (.int m2), .val (.int m3), .val (.int q), .val (.ref b64), .val (.ref b66), .unset, .unset] [(.int (1 : Int32)), (.ref b66)]))
        refine own_go (fun t k => XS.iconst X76.here hx rfl (hb hby at_321) k) ?_
        refine own_iastore X76 hx hZ e76 V76 (j := (1 : Int32)) ⟨by decide, by decide⟩ 1 rfl (Nat.le_of_ble_eq_true rfl) (g := (mkF m 322 #[.val (.int p1), .val (.int p2), .val (.int p3), .val (.int p4), .val (.int p5), .val (.int p6), .val (.int (2 : Int32)), .val (.long la), .second, .val (.long lb), .second, .val (.long lc), .second, .val (.long ld), .second, .val (.long lb), .second, .val (.int x0), .val (.int x1), .val (.int x2), .val (.int x3), .val (.int m1), .val (.int m2), .val (.int m3), .val (.int q), .val (.ref b64), .val (.ref b66), .unset, .unset] [(.int (1 : Int32)), (.int (1 : Int32)), (.ref b66)])) rfl rfl (hb hby at_322) (fun T77 h77 X77 e77 W77 V77 => ?_)
        replace V77 : Arv Z h77 b66 k66 .int (5 : Int32) [(.int (1 : Int32)), (.int (1 : Int32)), (.int (0 : Int32)), (.int (0 : Int32)), (.int (0 : Int32))] (.int (0 : Int32)) := V77
        have N77 := Fr.snoc X77 N76 (Nat.le_trans F67 (Nat.le_of_eq g66.symm))
        refine own_go (fun t k => XS.aload X77.here hx rfl (hb hby at_323) rfl rfl  k) ?_
        refine own_go (fun t k => XS.iconst X77.here hx rfl (hb hby at_325) k) ?_
        refine own_go (fun t k => XS.iconst X77.here hx rfl (hb hby at_326) k) ?_
        show own_Run p e below Φ (T77.setTop (mkF m 327 #[.val (.int p1), .val (.int p2), .val (.int p3), .val (.int p4), .val (.int p5), .val (.int p6), .val (.int (2 : Int32)), .val (.long la), .second, .val (.long lb), .second, .val (.long lc), .second, .val (.long ld), .second, .val (.long lb), .second, .val (.int x0), .val (.int x1), .val (.int x2), .val (.int x3), .val (.int m1), .val (.int m2), .val (.int m3), .val (.int q), .val (.ref b64), .val (.ref b66), .unset, .unset] [(.int (1 : Int32)), (.int (2 : Int32)), (.ref b66)]))
        refine own_iastore X77 hx hZ e77 V77 (j := (2 : Int32)) ⟨by decide, by decide⟩ 2 rfl (Nat.le_of_ble_eq_true rfl) (g := (mkF m 327 #[.val (.int p1), .val (.int p2), .val (.int p3), .val (.int p4), .val (.int p5), .val (.int p6), .val (.int (2 : Int32)), .val (.long la), .second, .val (.long lb), .second, .val (.long lc), .second, .val (.long ld), .second, .val (.long lb), .second, .val (.int x0), .val (.int x1), .val (.int x2), .val (.int x3), .val (.int m1), .val (.int m2), .val (.int m3), .val (.int q), .val (.ref b64), .val (.ref b66), .unset, .unset] [(.int (1 : Int32)), (.int (2 : Int32)), (.ref b66)])) rfl rfl (hb hby at_327) (fun T78 h78 X78 e78 W78 V78 => ?_)
        replace V78 : Arv Z h78 b66 k66 .int (5 : Int32) [(.int (1 : Int32)), (.int (1 : Int32)), (.int (1 : Int32)), (.int (0 : Int32)), (.int (0 : Int32))] (.int (0 : Int32)) := V78
        have N78 := Fr.snoc X78 N77 (Nat.le_trans F67 (Nat.le_of_eq g66.symm))
        refine own_go (fun t k => XS.aload X78.here hx rfl (hb hby at_328) rfl rfl  k) ?_
        refine own_go (fun t k => XS.iconst X78.here hx rfl (hb hby at_330) k) ?_
        refine own_go (fun t k => XS.iconst X78.here hx rfl (hb hby at_331) k) ?_
        refine own_iastore X78 hx hZ e78 V78 (j := (3 : Int32)) ⟨by decide, by decide⟩ 3 rfl (Nat.le_of_ble_eq_true rfl) (g := (mkF m 332 #[.val (.int p1), .val (.int p2), .val (.int p3), .val (.int p4), .val (.int p5), .val (.int p6), .val (.int (2 : Int32)), .val (.long la), .second, .val (.long lb), .second, .val (.long lc), .second, .val (.long ld), .second, .val (.long lb), .second, .val (.int x0), .val (.int x1), .val (.int x2), .val (.int x3), .val (.int m1), .val (.int m2), .val (.int m3), .val (.int q), .val (.ref b64), .val (.ref b66), .unset, .unset] [(.int (1 : Int32)), (.int (3 : Int32)), (.ref b66)])) rfl rfl (hb hby at_332) (fun T79 h79 X79 e79 W79 V79 => ?_)
        replace V79 : Arv Z h79 b66 k66 .int (5 : Int32) [(.int (1 : Int32)), (.int (1 : Int32)), (.int (1 : Int32)), (.int (1 : Int32)), (.int (0 : Int32))] (.int (0 : Int32)) := V79
        have N79 := Fr.snoc X79 N78 (Nat.le_trans F67 (Nat.le_of_eq g66.symm))
        show own_Run p e below Φ (T79.setTop (mkF m 333 #[.val (.int p1), .val (.int p2), .val (.int p3), .val (.int p4), .val (.int p5), .val (.int p6), .val (.int (2 : Int32)), .val (.long la), .second, .val (.long lb), .second, .val (.long lc), .second, .val (.long ld), .second, .val (.long lb), .second, .val (.int x0), .val (.int x1), .val (.int x2), .val (.int x3), .val (.int m1), .val (.int m2), .val (.int m3), .val (.int q), .val (.ref b64), .val (.ref b66), .unset, .unset] []))
        refine own_go (fun t k => XS.aload X79.here hx rfl (hb hby at_333) rfl rfl  k) ?_
        refine own_go (fun t k => XS.iconst X79.here hx rfl (hb hby at_335) k) ?_
        refine own_go (fun t k => XS.iconst X79.here hx rfl (hb hby at_336) k) ?_
        refine own_iastore X79 hx hZ e79 V79 (j := (4 : Int32)) ⟨by decide, by decide⟩ 4 rfl (Nat.le_of_ble_eq_true rfl) (g := (mkF m 337 #[.val (.int p1), .val (.int p2), .val (.int p3), .val (.int p4), .val (.int p5), .val (.int p6), .val (.int (2 : Int32)), .val (.long la), .second, .val (.long lb), .second, .val (.long lc), .second, .val (.long ld), .second, .val (.long lb), .second, .val (.int x0), .val (.int x1), .val (.int x2), .val (.int x3), .val (.int m1), .val (.int m2), .val (.int m3), .val (.int q), .val (.ref b64), .val (.ref b66), .unset, .unset] [(.int (1 : Int32)), (.int (4 : Int32)), (.ref b66)])) rfl rfl (hb hby at_337) (fun T80 h80 X80 e80 W80 V80 => ?_)
        replace V80 : Arv Z h80 b66 k66 .int (5 : Int32) [(.int (1 : Int32)), (.int (1 : Int32)), (.int (1 : Int32)), (.int (1 : Int32)), (.int (1 : Int32))] (.int (0 : Int32)) := V80
        have N80 := Fr.snoc X80 N79 (Nat.le_trans F67 (Nat.le_of_eq g66.symm))
        have F82 : n0 ≤ h80.size := (Nat.le_trans (Nat.le_trans (Nat.le_trans (Nat.le_trans (Nat.le_trans (Nat.le_trans (Nat.le_trans (Nat.le_trans (Nat.le_trans (Nat.le_trans (Nat.le_trans F67 E66.1) (Keep.of_wr W70).1) (Keep.of_wr W71).1) (Keep.of_wr W72).1) (Keep.of_wr W73).1) (Keep.of_wr W74).1) (Keep.of_wr W76).1) (Keep.of_wr W77).1) (Keep.of_wr W78).1) (Keep.of_wr W79).1) (Keep.of_wr W80).1)
        have F83 : Arv Z h80 b64 k64 .int (5 : Int32) [(.int x0), (.int x1), (.int q), (.int q), (.int q)] (.int (0 : Int32)) := (((((V74.other W76 ne_b64_b66).other W77 ne_b64_b66).other W78 ne_b64_b66).other W79 ne_b64_b66).other W80 ne_b64_b66)
        obtain ⟨T81, h81, X81, e81, E81, A81, D81, -, st81⟩ := newO X80 hx hZ hown (hw _ (List.mem_of_getElem? (i := 2) rfl)) (hw _ (List.mem_of_getElem? (i := 3) rfl)) (hw _ (List.mem_of_getElem? (i := 4) rfl)) e80 (g := (mkF m 338 #[.val (.int p1), .val (.int p2), .val (.int p3), .val (.int p4), .val (.int p5), .val (.int p6), .val (.int (2 : Int32)), .val (.long la), .second, .val (.long lb), .second, .val (.long lc), .second, .val (.long ld), .second, .val (.long lb), .second, .val (.int x0), .val (.int x1), .val (.int x2), .val (.int x3), .val (.int m1), .val (.int m2), .val (.int m3), .val (.int q), .val (.ref b64), .val (.ref b66), .unset, .unset] [])) rfl (hb hby at_338) (by decide) (by decide)
        refine own_go st81 ?_
        obtain ⟨b81, g81⟩ : ∃ z, z = h80.size := ⟨_, rfl⟩
        rw [← g81] at A81 D81 ⊢
        have ne_b64_b81 : b64 ≠ b81 := Nat.ne_of_lt (Nat.lt_of_lt_of_le F83.lt (Nat.le_of_eq g81.symm))
        have ne_b66_b81 : b66 ≠ b81 := Nat.ne_of_lt (Nat.lt_of_lt_of_le V80.lt (Nat.le_of_eq g81.symm))
        have G84 : Fld Z h81 b81 "com/example/glossyn/glossyn/index/Postings" "documents" "[I" .null := D81 (Or.inr (hw _ (List.mem_of_getElem? (i := 12) rfl))) (ty := (.array .int)) (by decide)
        have G85 : Fld Z h81 b81 "com/example/glossyn/glossyn/index/Postings" "frequencies" "[I" .null := D81 (Or.inr (hw _ (List.mem_of_getElem? (i := 14) rfl))) (ty := (.array .int)) (by decide)
        have G86 : Fld Z h81 b81 "com/example/glossyn/glossyn/index/Postings" "size" "I" (.int (0 : Int32)) := D81 (Or.inr (hw _ (List.mem_of_getElem? (i := 16) rfl))) (ty := .int) (by decide)
        show own_Run p e below Φ (T81.setTop (mkF m 341 #[.val (.int p1), .val (.int p2), .val (.int p3), .val (.int p4), .val (.int p5), .val (.int p6), .val (.int (2 : Int32)), .val (.long la), .second, .val (.long lb), .second, .val (.long lc), .second, .val (.long ld), .second, .val (.long lb), .second, .val (.int x0), .val (.int x1), .val (.int x2), .val (.int x3), .val (.int m1), .val (.int m2), .val (.int m3), .val (.int q), .val (.ref b64), .val (.ref b66), .unset, .unset] [(.ref b81)]))
        refine own_go (fun t k => XS.dup X81.here hx rfl (hb hby at_341) rfl rfl k) ?_
        refine own_go (fun t k => XS.aload X81.here hx rfl (hb hby at_342) rfl rfl  k) ?_
        refine own_go (fun t k => XS.aload X81.here hx rfl (hb hby at_344) rfl rfl  k) ?_
        refine own_go (fun t k => XS.iload X81.here hx rfl (hb hby at_346) rfl  k) ?_
        refine own_callI X81 hx hZ (y := (⟨"com/example/glossyn/glossyn/index/Postings", "<init>", "([I[II)V"⟩ : MethodName)) (W := 1) (a := b81) (argsL := [(.ref b64), (.ref b66), (.int (2 : Int32))]) (rest := [(.ref b81)]) rfl hown (hw _ (List.mem_of_getElem? (i := 5) rfl)) (hw _ (List.mem_of_getElem? (i := 6) rfl)) (hw _ (List.mem_of_getElem? (i := 7) rfl)) (by decide) (own_bk (rm_ct l Z a0 hw b81 b64 b66 (2 : Int32) h81 n0 A81 G84 G85 G86 (Nat.le_trans F82 (Nat.le_of_eq g81.symm))) hZ (hw _ (List.mem_of_getElem? (i := 7) rfl)) (hw _ (List.mem_of_getElem? (i := 4) rfl)) (by decide) (by decide)) e81 (g := (mkF m 348 #[.val (.int p1), .val (.int p2), .val (.int p3), .val (.int p4), .val (.int p5), .val (.int p6), .val (.int (2 : Int32)), .val (.long la), .second, .val (.long lb), .second, .val (.long lc), .second, .val (.long ld), .second, .val (.long lb), .second, .val (.int x0), .val (.int x1), .val (.int x2), .val (.int x3), .val (.int m1), .val (.int m2), .val (.int m3), .val (.int q), .val (.ref b64), .val (.ref b66), .unset, .unset] [(.int (2 : Int32)), (.ref b66), (.ref b64), (.ref b81), (.ref b81)])) rfl (by rw [hml]; rfl) (lenOf pd_0 rfl) rfl (by show 2 * 0 + _ ≤ _; exact Nat.le_of_eq rfl) (hb hby at_348) (by decide) (by decide) (fun v87 T87 h87 L87 X87 e87 q87 => ?_)
        obtain ⟨rfl, M87, K87, P87_0, P87_1⟩ := q87
        have N87 := Fr.app N80 M87
        show own_Run p e below Φ (T87.setTop (mkF m 351 #[.val (.int p1), .val (.int p2), .val (.int p3), .val (.int p4), .val (.int p5), .val (.int p6), .val (.int (2 : Int32)), .val (.long la), .second, .val (.long lb), .second, .val (.long lc), .second, .val (.long ld), .second, .val (.long lb), .second, .val (.int x0), .val (.int x1), .val (.int x2), .val (.int x3), .val (.int m1), .val (.int m2), .val (.int m3), .val (.int q), .val (.ref b64), .val (.ref b66), .unset, .unset] [(.ref b81)]))
        refine own_go (fun t k => XS.astore X87.here hx rfl (hb hby at_351) rfl rfl (l' := #[.val (.int p1), .val (.int p2), .val (.int p3), .val (.int p4), .val (.int p5), .val (.int p6), .val (.int (2 : Int32)), .val (.long la), .second, .val (.long lb), .second, .val (.long lc), .second, .val (.long ld), .second, .val (.long lb), .second, .val (.int x0), .val (.int x1), .val (.int x2), .val (.int x3), .val (.int m1), .val (.int m2), .val (.int m3), .val (.int q), .val (.ref b64), .val (.ref b66), .val (.ref b81), .unset]) rfl k) ?_
        show own_Run p e below Φ (T87.setTop (mkF m 353 #[.val (.int p1), .val (.int p2), .val (.int p3), .val (.int p4), .val (.int p5), .val (.int p6), .val (.int (2 : Int32)), .val (.long la), .second, .val (.long lb), .second, .val (.long lc), .second, .val (.long ld), .second, .val (.long lb), .second, .val (.int x0), .val (.int x1), .val (.int x2), .val (.int x3), .val (.int m1), .val (.int m2), .val (.int m3), .val (.int q), .val (.ref b64), .val (.ref b66), .val (.ref b81), .unset] []))
        have J409_88 : ∀ (y : Int32), (own_y2 x0 x1 q = y) → own_Run p e below Φ (T87.setTop (mkF m 409 #[.val (.int p1), .val (.int p2), .val (.int p3), .val (.int p4), .val (.int p5), .val (.int p6), .val (.int (2 : Int32)), .val (.long la), .second, .val (.long lb), .second, .val (.long lc), .second, .val (.long ld), .second, .val (.long lb), .second, .val (.int x0), .val (.int x1), .val (.int x2), .val (.int x3), .val (.int m1), .val (.int m2), .val (.int m3), .val (.int q), .val (.ref b64), .val (.ref b66), .val (.ref b81), .unset] [(.int y)])) := by
          intro y hy
          show own_Run p e below Φ (T87.setTop (mkF m 409 #[.val (.int p1), .val (.int p2), .val (.int p3), .val (.int p4), .val (.int p5), .val (.int p6), .val (.int (2 : Int32)), .val (.long la), .second, .val (.long lb), .second, .val (.long lc), .second, .val (.long ld), .second, .val (.long lb), .second, .val (.int x0), .val (.int x1), .val (.int x2), .val (.int x3), .val (.int m1), .val (.int m2), .val (.int m3), .val (.int q), .val (.ref b64), .val (.ref b66), .val (.ref b81), .unset] [(.int y)]))
          refine own_go (fun t k => XS.istore X87.here hx rfl (hb hby at_409) rfl (l' := #[.val (.int p1), .val (.int p2), .val (.int p3), .val (.int p4), .val (.int p5), .val (.int p6), .val (.int (2 : Int32)), .val (.long la), .second, .val (.long lb), .second, .val (.long lc), .second, .val (.long ld), .second, .val (.long lb), .second, .val (.int x0), .val (.int x1), .val (.int x2), .val (.int x3), .val (.int m1), .val (.int m2), .val (.int m3), .val (.int q), .val (.ref b64), .val (.ref b66), .val (.ref b81), .val (.int y)]) rfl k) ?_
          refine own_go (fun t k => XS.aload X87.here hx rfl (hb hby at_411) rfl rfl  k) ?_
          refine own_go (fun t k => XS.iload X87.here hx rfl (hb hby at_413) rfl  k) ?_
          have F89 : Arv Z h87 b64 k64 .int (5 : Int32) [(.int x0), (.int x1), (.int q), (.int q), (.int q)] (.int (0 : Int32)) := ((F83.ext E81).keep K87 (ninS ne_b64_b81 nin0))
          have F91 : Exa Z h87 b81 "com/example/glossyn/glossyn/index/Postings" := (A81.keep K87)
          refine own_callV X87 hx hZ (y := (⟨"com/example/glossyn/glossyn/index/Postings", "contains", "(I)Z"⟩ : MethodName)) (z := (⟨"com/example/glossyn/glossyn/index/Postings", "contains", "(I)Z"⟩ : MethodName)) (W := 0) (a := b81) (argsL := [(.int q)]) (rest := []) hown (hw _ (List.mem_of_getElem? (i := 17) rfl)) (hw _ (List.mem_of_getElem? (i := 18) rfl)) (notFace_of_selects (args := #[]) (mvT hZ (hw _ (List.mem_of_getElem? (i := 20) rfl)))) (hw _ (List.mem_of_getElem? (i := 20) rfl)) (hw _ (List.mem_of_getElem? (i := 19) rfl)) (by decide) (own_bk (rm_cn2 l Z a0 hw b81 q b64 k64 x0 x1 q q q h87 n0 P87_0 P87_1 F89 (by omega)) hZ (hw _ (List.mem_of_getElem? (i := 21) rfl)) (hw _ (List.mem_of_getElem? (i := 4) rfl)) (by decide) (by decide)) e87 F91 (g := (mkF m 415 #[.val (.int p1), .val (.int p2), .val (.int p3), .val (.int p4), .val (.int p5), .val (.int p6), .val (.int (2 : Int32)), .val (.long la), .second, .val (.long lb), .second, .val (.long lc), .second, .val (.long ld), .second, .val (.long lb), .second, .val (.int x0), .val (.int x1), .val (.int x2), .val (.int x3), .val (.int m1), .val (.int m2), .val (.int m3), .val (.int q), .val (.ref b64), .val (.ref b66), .val (.ref b81), .val (.int y)] [(.int q), (.ref b81)])) rfl (by rw [hml]; rfl) (lenOf pd_2 rfl) rfl (by show 2 * 0 + _ ≤ _; exact Nat.le_of_eq rfl) (hb hby at_415) (by decide) (by decide) (fun v90 T90 h90 L90 X90 e90 q90 => ?_)
          obtain ⟨rfl, M90, s90⟩ := q90
          replace e90 : T90.heap = h87 := e90.trans s90
          have N90 := Fr.app N87 M90
          refine own_go (fun t k => XS.iload X90.here hx rfl (hb hby at_418) rfl  k) ?_
          show own_Run p e below Φ (T90.setTop (mkF m 420 #[.val (.int p1), .val (.int p2), .val (.int p3), .val (.int p4), .val (.int p5), .val (.int p6), .val (.int (2 : Int32)), .val (.long la), .second, .val (.long lb), .second, .val (.long lc), .second, .val (.long ld), .second, .val (.long lb), .second, .val (.int x0), .val (.int x1), .val (.int x2), .val (.int x3), .val (.int m1), .val (.int m2), .val (.int m3), .val (.int q), .val (.ref b64), .val (.ref b66), .val (.ref b81), .val (.int y)] [(.int y), (.int (own_y2 x0 x1 q))]))
          have hc420 : (own_y2 x0 x1 q) = y := hy
          refine own_go (fun t k => XS.icmpNo X90.here hx rfl (hb hby at_420) rfl (teq hc420).2 k) ?_
          refine own_go (fun t k => XS.iconst X90.here hx rfl (hb hby at_423) k) ?_
          refine own_go (fun t k => XS.goto X90.here hx rfl (pc0 := 424) (pc' := 428) rfl (hb hby at_424) (by decide) (by decide) k) ?_
          subst hΦ
          exact own_retN X90 hx (t := .boolean) Bd.returns (by simp) hlk (hb hby at_428) e90 ⟨rfl, N90⟩ (by decide) (by decide)
        show own_Run p e below Φ (T87.setTop (mkF m 353 #[.val (.int p1), .val (.int p2), .val (.int p3), .val (.int p4), .val (.int p5), .val (.int p6), .val (.int (2 : Int32)), .val (.long la), .second, .val (.long lb), .second, .val (.long lc), .second, .val (.long ld), .second, .val (.long lb), .second, .val (.int x0), .val (.int x1), .val (.int x2), .val (.int x3), .val (.int m1), .val (.int m2), .val (.int m3), .val (.int q), .val (.ref b64), .val (.ref b66), .val (.ref b81), .unset] []))
        refine own_go (fun t k => XS.iload X87.here hx rfl (hb hby at_353) rfl  k) ?_
        refine own_go (fun t k => XS.ifNo X87.here hx rfl (hb hby at_355) rfl ((if0 _ _).trans (tlt (by decide : (0 : Int32) < (2 : Int32))).2.2.2) k) ?_
        show own_Run p e below Φ (T87.setTop (mkF m 358 #[.val (.int p1), .val (.int p2), .val (.int p3), .val (.int p4), .val (.int p5), .val (.int p6), .val (.int (2 : Int32)), .val (.long la), .second, .val (.long lb), .second, .val (.long lc), .second, .val (.long ld), .second, .val (.long lb), .second, .val (.int x0), .val (.int x1), .val (.int x2), .val (.int x3), .val (.int m1), .val (.int m2), .val (.int m3), .val (.int q), .val (.ref b64), .val (.ref b66), .val (.ref b81), .unset] []))
        refine own_go (fun t k => XS.iload X87.here hx rfl (hb hby at_358) rfl  k) ?_
        refine own_go (fun t k => XS.iload X87.here hx rfl (hb hby at_360) rfl  k) ?_
        by_cases hc362 : q = x0
        · refine own_go (fun t k => XS.icmpYes X87.here hx rfl (pc0 := 362) (pc' := 404) rfl (hb hby at_362) rfl (teq hc362).1 (by decide) (by decide) k) ?_
          refine own_go (fun t k => XS.iconst X87.here hx rfl (hb hby at_404) k) ?_
          refine own_go (fun t k => XS.goto X87.here hx rfl (pc0 := 405) (pc' := 409) rfl (hb hby at_405) (by decide) (by decide) k) ?_
          exact J409_88 (1 : Int32) (by unfold own_y2; rw [if_pos hc362])
        · refine own_go (fun t k => XS.icmpNo X87.here hx rfl (hb hby at_362) rfl (feq hc362).1 k) ?_
          show own_Run p e below Φ (T87.setTop (mkF m 365 #[.val (.int p1), .val (.int p2), .val (.int p3), .val (.int p4), .val (.int p5), .val (.int p6), .val (.int (2 : Int32)), .val (.long la), .second, .val (.long lb), .second, .val (.long lc), .second, .val (.long ld), .second, .val (.long lb), .second, .val (.int x0), .val (.int x1), .val (.int x2), .val (.int x3), .val (.int m1), .val (.int m2), .val (.int m3), .val (.int q), .val (.ref b64), .val (.ref b66), .val (.ref b81), .unset] []))
          refine own_go (fun t k => XS.iload X87.here hx rfl (hb hby at_365) rfl  k) ?_
          refine own_go (fun t k => XS.iconst X87.here hx rfl (hb hby at_367) k) ?_
          refine own_go (fun t k => XS.icmpNo X87.here hx rfl (hb hby at_368) rfl (tlt (by decide : (1 : Int32) < (2 : Int32))).2.2.2 k) ?_
          refine own_go (fun t k => XS.iload X87.here hx rfl (hb hby at_371) rfl  k) ?_
          refine own_go (fun t k => XS.iload X87.here hx rfl (hb hby at_373) rfl  k) ?_
          show own_Run p e below Φ (T87.setTop (mkF m 375 #[.val (.int p1), .val (.int p2), .val (.int p3), .val (.int p4), .val (.int p5), .val (.int p6), .val (.int (2 : Int32)), .val (.long la), .second, .val (.long lb), .second, .val (.long lc), .second, .val (.long ld), .second, .val (.long lb), .second, .val (.int x0), .val (.int x1), .val (.int x2), .val (.int x3), .val (.int m1), .val (.int m2), .val (.int m3), .val (.int q), .val (.ref b64), .val (.ref b66), .val (.ref b81), .unset] [(.int x1), (.int q)]))
          by_cases hc375 : q = x1
          · refine own_go (fun t k => XS.icmpYes X87.here hx rfl (pc0 := 375) (pc' := 404) rfl (hb hby at_375) rfl (teq hc375).1 (by decide) (by decide) k) ?_
            refine own_go (fun t k => XS.iconst X87.here hx rfl (hb hby at_404) k) ?_
            refine own_go (fun t k => XS.goto X87.here hx rfl (pc0 := 405) (pc' := 409) rfl (hb hby at_405) (by decide) (by decide) k) ?_
            exact J409_88 (1 : Int32) (by unfold own_y2; rw [if_neg hc362, if_pos hc375])
          · refine own_go (fun t k => XS.icmpNo X87.here hx rfl (hb hby at_375) rfl (feq hc375).1 k) ?_
            refine own_go (fun t k => XS.iload X87.here hx rfl (hb hby at_378) rfl  k) ?_
            refine own_go (fun t k => XS.iconst X87.here hx rfl (hb hby at_380) k) ?_
            show own_Run p e below Φ (T87.setTop (mkF m 381 #[.val (.int p1), .val (.int p2), .val (.int p3), .val (.int p4), .val (.int p5), .val (.int p6), .val (.int (2 : Int32)), .val (.long la), .second, .val (.long lb), .second, .val (.long lc), .second, .val (.long ld), .second, .val (.long lb), .second, .val (.int x0), .val (.int x1), .val (.int x2), .val (.int x3), .val (.int m1), .val (.int m2), .val (.int m3), .val (.int q), .val (.ref b64), .val (.ref b66), .val (.ref b81), .unset] [(.int (2 : Int32)), (.int (2 : Int32))]))
            refine own_go (fun t k => XS.icmpYes X87.here hx rfl (pc0 := 381) (pc' := 391) rfl (hb hby at_381) rfl (flt (by decide : ¬ ((2 : Int32) < (2 : Int32)))).2.2.2 (by decide) (by decide) k) ?_
            refine own_go (fun t k => XS.iload X87.here hx rfl (hb hby at_391) rfl  k) ?_
            refine own_go (fun t k => XS.iconst X87.here hx rfl (hb hby at_393) k) ?_
            refine own_go (fun t k => XS.icmpYes X87.here hx rfl (pc0 := 394) (pc' := 408) rfl (hb hby at_394) rfl (flt (by decide : ¬ ((3 : Int32) < (2 : Int32)))).2.2.2 (by decide) (by decide) k) ?_
            refine own_go (fun t k => XS.iconst X87.here hx rfl (hb hby at_408) k) ?_
            exact J409_88 (0 : Int32) (by unfold own_y2; rw [if_neg hc362, if_neg hc375])
      show own_Run p e below Φ (s₁.setTop (mkF m 112 #[.val (.int p1), .val (.int p2), .val (.int p3), .val (.int p4), .val (.int p5), .val (.int p6), .val (.int (2 : Int32)), .val (.long la), .second, .val (.long lb), .second, .val (.long lc), .second, .val (.long ld), .second, .val (.long lb), .second, .val (.int x0), .val (.int x1), .val (.int x2), .val (.int x3), .unset, .unset, .unset, .unset, .unset, .unset, .unset, .unset] []))
      refine own_go (fun t k => XS.iload X0.here hx rfl (hb hby at_112) rfl  k) ?_
      show own_Run p e below Φ (s₁.setTop (mkF m 114 #[.val (.int p1), .val (.int p2), .val (.int p3), .val (.int p4), .val (.int p5), .val (.int p6), .val (.int (2 : Int32)), .val (.long la), .second, .val (.long lb), .second, .val (.long lc), .second, .val (.long ld), .second, .val (.long lb), .second, .val (.int x0), .val (.int x1), .val (.int x2), .val (.int x3), .unset, .unset, .unset, .unset, .unset, .unset, .unset, .unset] [(.int p5)]))
      refine own_go (fun t k => XS.bipush X0.here hx rfl (hb hby at_114) k) ?_
      refine own_go (fun t k => XS.iushr X0.here hx rfl (hb hby at_116) rfl k) ?_
      refine own_go (fun t k => XS.iconst X0.here hx rfl (hb hby at_117) k) ?_
      refine own_go (fun t k => XS.iand X0.here hx rfl (hb hby at_118) rfl k) ?_
      refine own_go (fun t k => XS.istore X0.here hx rfl (hb hby at_119) rfl (l' := #[.val (.int p1), .val (.int p2), .val (.int p3), .val (.int p4), .val (.int p5), .val (.int p6), .val (.int (2 : Int32)), .val (.long la), .second, .val (.long lb), .second, .val (.long lc), .second, .val (.long ld), .second, .val (.long lb), .second, .val (.int x0), .val (.int x1), .val (.int x2), .val (.int x3), .val (.int (((p5.toUInt32 >>> ((11 : Int32) &&& 31).toUInt32).toInt32) &&& (3 : Int32))), .unset, .unset, .unset, .unset, .unset, .unset, .unset]) rfl k) ?_
      show own_Run p e below Φ (s₁.setTop (mkF m 121 #[.val (.int p1), .val (.int p2), .val (.int p3), .val (.int p4), .val (.int p5), .val (.int p6), .val (.int (2 : Int32)), .val (.long la), .second, .val (.long lb), .second, .val (.long lc), .second, .val (.long ld), .second, .val (.long lb), .second, .val (.int x0), .val (.int x1), .val (.int x2), .val (.int x3), .val (.int (((p5.toUInt32 >>> ((11 : Int32) &&& 31).toUInt32).toInt32) &&& (3 : Int32))), .unset, .unset, .unset, .unset, .unset, .unset, .unset] []))
      have J141_92 : ∀ (kk : Int32), own_Run p e below Φ (s₁.setTop (mkF m 141 #[.val (.int p1), .val (.int p2), .val (.int p3), .val (.int p4), .val (.int p5), .val (.int p6), .val (.int (2 : Int32)), .val (.long la), .second, .val (.long lb), .second, .val (.long lc), .second, .val (.long ld), .second, .val (.long lb), .second, .val (.int x0), .val (.int x1), .val (.int x2), .val (.int x3), .val (.int (((p5.toUInt32 >>> ((11 : Int32) &&& 31).toUInt32).toInt32) &&& (3 : Int32))), .unset, .unset, .unset, .unset, .unset, .unset, .unset] [(.int kk)])) := by
        intro kk
        show own_Run p e below Φ (s₁.setTop (mkF m 141 #[.val (.int p1), .val (.int p2), .val (.int p3), .val (.int p4), .val (.int p5), .val (.int p6), .val (.int (2 : Int32)), .val (.long la), .second, .val (.long lb), .second, .val (.long lc), .second, .val (.long ld), .second, .val (.long lb), .second, .val (.int x0), .val (.int x1), .val (.int x2), .val (.int x3), .val (.int (((p5.toUInt32 >>> ((11 : Int32) &&& 31).toUInt32).toInt32) &&& (3 : Int32))), .unset, .unset, .unset, .unset, .unset, .unset, .unset] [(.int kk)]))
        refine own_go (fun t k => XS.istore X0.here hx rfl (hb hby at_141) rfl (l' := #[.val (.int p1), .val (.int p2), .val (.int p3), .val (.int p4), .val (.int p5), .val (.int p6), .val (.int (2 : Int32)), .val (.long la), .second, .val (.long lb), .second, .val (.long lc), .second, .val (.long ld), .second, .val (.long lb), .second, .val (.int x0), .val (.int x1), .val (.int x2), .val (.int x3), .val (.int (((p5.toUInt32 >>> ((11 : Int32) &&& 31).toUInt32).toInt32) &&& (3 : Int32))), .val (.int kk), .unset, .unset, .unset, .unset, .unset, .unset]) rfl k) ?_
        show own_Run p e below Φ (s₁.setTop (mkF m 143 #[.val (.int p1), .val (.int p2), .val (.int p3), .val (.int p4), .val (.int p5), .val (.int p6), .val (.int (2 : Int32)), .val (.long la), .second, .val (.long lb), .second, .val (.long lc), .second, .val (.long ld), .second, .val (.long lb), .second, .val (.int x0), .val (.int x1), .val (.int x2), .val (.int x3), .val (.int (((p5.toUInt32 >>> ((11 : Int32) &&& 31).toUInt32).toInt32) &&& (3 : Int32))), .val (.int kk), .unset, .unset, .unset, .unset, .unset, .unset] []))
        have J177_93 : ∀ (pk : Int32), own_Run p e below Φ (s₁.setTop (mkF m 177 #[.val (.int p1), .val (.int p2), .val (.int p3), .val (.int p4), .val (.int p5), .val (.int p6), .val (.int (2 : Int32)), .val (.long la), .second, .val (.long lb), .second, .val (.long lc), .second, .val (.long ld), .second, .val (.long lb), .second, .val (.int x0), .val (.int x1), .val (.int x2), .val (.int x3), .val (.int (((p5.toUInt32 >>> ((11 : Int32) &&& 31).toUInt32).toInt32) &&& (3 : Int32))), .val (.int kk), .unset, .unset, .unset, .unset, .unset, .unset] [(.int pk)])) := by
          intro pk
          show own_Run p e below Φ (s₁.setTop (mkF m 177 #[.val (.int p1), .val (.int p2), .val (.int p3), .val (.int p4), .val (.int p5), .val (.int p6), .val (.int (2 : Int32)), .val (.long la), .second, .val (.long lb), .second, .val (.long lc), .second, .val (.long ld), .second, .val (.long lb), .second, .val (.int x0), .val (.int x1), .val (.int x2), .val (.int x3), .val (.int (((p5.toUInt32 >>> ((11 : Int32) &&& 31).toUInt32).toInt32) &&& (3 : Int32))), .val (.int kk), .unset, .unset, .unset, .unset, .unset, .unset] [(.int pk)]))
          refine own_go (fun t k => XS.istore X0.here hx rfl (hb hby at_177) rfl (l' := #[.val (.int p1), .val (.int p2), .val (.int p3), .val (.int p4), .val (.int p5), .val (.int p6), .val (.int (2 : Int32)), .val (.long la), .second, .val (.long lb), .second, .val (.long lc), .second, .val (.long ld), .second, .val (.long lb), .second, .val (.int x0), .val (.int x1), .val (.int x2), .val (.int x3), .val (.int (((p5.toUInt32 >>> ((11 : Int32) &&& 31).toUInt32).toInt32) &&& (3 : Int32))), .val (.int kk), .val (.int pk), .unset, .unset, .unset, .unset, .unset]) rfl k) ?_
          refine own_go (fun t k => XS.iload X0.here hx rfl (hb hby at_179) rfl  k) ?_
          refine own_go (fun t k => XS.ifNo X0.here hx rfl (hb hby at_181) rfl ((if0 _ _).trans (feq (by decide : ¬ ((2 : Int32) = (0 : Int32)))).1) k) ?_
          refine own_go (fun t k => XS.iload X0.here hx rfl (hb hby at_184) rfl  k) ?_
          by_cases hc186 : (((p5.toUInt32 >>> ((11 : Int32) &&& 31).toUInt32).toInt32) &&& (3 : Int32)) = (0 : Int32)
          · refine own_go (fun t k => XS.ifNo X0.here hx rfl (hb hby at_186) rfl ((if0 _ _).trans (teq hc186).2) k) ?_
            show own_Run p e below Φ (s₁.setTop (mkF m 189 #[.val (.int p1), .val (.int p2), .val (.int p3), .val (.int p4), .val (.int p5), .val (.int p6), .val (.int (2 : Int32)), .val (.long la), .second, .val (.long lb), .second, .val (.long lc), .second, .val (.long ld), .second, .val (.long lb), .second, .val (.int x0), .val (.int x1), .val (.int x2), .val (.int x3), .val (.int (((p5.toUInt32 >>> ((11 : Int32) &&& 31).toUInt32).toInt32) &&& (3 : Int32))), .val (.int kk), .val (.int pk), .unset, .unset, .unset, .unset, .unset] []))
            refine own_go (fun t k => XS.iload X0.here hx rfl (hb hby at_189) rfl  k) ?_
            refine own_go (fun t k => XS.istore X0.here hx rfl (hb hby at_191) rfl (l' := #[.val (.int p1), .val (.int p2), .val (.int p3), .val (.int p4), .val (.int p5), .val (.int p6), .val (.int (2 : Int32)), .val (.long la), .second, .val (.long lb), .second, .val (.long lc), .second, .val (.long ld), .second, .val (.long lb), .second, .val (.int x0), .val (.int x1), .val (.int x2), .val (.int x3), .val (.int (((p5.toUInt32 >>> ((11 : Int32) &&& 31).toUInt32).toInt32) &&& (3 : Int32))), .val (.int kk), .val (.int pk), .val (.int p6), .unset, .unset, .unset, .unset]) rfl k) ?_
            refine own_go (fun t k => XS.goto X0.here hx rfl (pc0 := 193) (pc' := 230) rfl (hb hby at_193) (by decide) (by decide) k) ?_
            exact J230_63 p6 (((p5.toUInt32 >>> ((11 : Int32) &&& 31).toUInt32).toInt32) &&& (3 : Int32)) kk pk
          · refine own_go (fun t k => XS.ifYes X0.here hx rfl (pc0 := 186) (pc' := 196) rfl (hb hby at_186) rfl ((if0 _ _).trans (feq hc186).2) (by decide) (by decide) k) ?_
            refine own_go (fun t k => XS.iload X0.here hx rfl (hb hby at_196) rfl  k) ?_
            refine own_go (fun t k => XS.iconst X0.here hx rfl (hb hby at_198) k) ?_
            show own_Run p e below Φ (s₁.setTop (mkF m 199 #[.val (.int p1), .val (.int p2), .val (.int p3), .val (.int p4), .val (.int p5), .val (.int p6), .val (.int (2 : Int32)), .val (.long la), .second, .val (.long lb), .second, .val (.long lc), .second, .val (.long ld), .second, .val (.long lb), .second, .val (.int x0), .val (.int x1), .val (.int x2), .val (.int x3), .val (.int (((p5.toUInt32 >>> ((11 : Int32) &&& 31).toUInt32).toInt32) &&& (3 : Int32))), .val (.int kk), .val (.int pk), .unset, .unset, .unset, .unset, .unset] [(.int (1 : Int32)), (.int (((p5.toUInt32 >>> ((11 : Int32) &&& 31).toUInt32).toInt32) &&& (3 : Int32)))]))
            by_cases hc199 : (((p5.toUInt32 >>> ((11 : Int32) &&& 31).toUInt32).toInt32) &&& (3 : Int32)) = (1 : Int32)
            · refine own_go (fun t k => XS.icmpNo X0.here hx rfl (hb hby at_199) rfl (teq hc199).2 k) ?_
              refine own_go (fun t k => XS.iload X0.here hx rfl (hb hby at_202) rfl  k) ?_
              refine own_go (fun t k => XS.istore X0.here hx rfl (hb hby at_204) rfl (l' := #[.val (.int p1), .val (.int p2), .val (.int p3), .val (.int p4), .val (.int p5), .val (.int p6), .val (.int (2 : Int32)), .val (.long la), .second, .val (.long lb), .second, .val (.long lc), .second, .val (.long ld), .second, .val (.long lb), .second, .val (.int x0), .val (.int x1), .val (.int x2), .val (.int x3), .val (.int (((p5.toUInt32 >>> ((11 : Int32) &&& 31).toUInt32).toInt32) &&& (3 : Int32))), .val (.int kk), .val (.int pk), .val (.int pk), .unset, .unset, .unset, .unset]) rfl k) ?_
              refine own_go (fun t k => XS.goto X0.here hx rfl (pc0 := 206) (pc' := 230) rfl (hb hby at_206) (by decide) (by decide) k) ?_
              exact J230_63 pk (((p5.toUInt32 >>> ((11 : Int32) &&& 31).toUInt32).toInt32) &&& (3 : Int32)) kk pk
            · refine own_go (fun t k => XS.icmpYes X0.here hx rfl (pc0 := 199) (pc' := 209) rfl (hb hby at_199) rfl (feq hc199).2 (by decide) (by decide) k) ?_
              refine own_go (fun t k => XS.iload X0.here hx rfl (hb hby at_209) rfl  k) ?_
              show own_Run p e below Φ (s₁.setTop (mkF m 211 #[.val (.int p1), .val (.int p2), .val (.int p3), .val (.int p4), .val (.int p5), .val (.int p6), .val (.int (2 : Int32)), .val (.long la), .second, .val (.long lb), .second, .val (.long lc), .second, .val (.long ld), .second, .val (.long lb), .second, .val (.int x0), .val (.int x1), .val (.int x2), .val (.int x3), .val (.int (((p5.toUInt32 >>> ((11 : Int32) &&& 31).toUInt32).toInt32) &&& (3 : Int32))), .val (.int kk), .val (.int pk), .unset, .unset, .unset, .unset, .unset] [(.int (((p5.toUInt32 >>> ((11 : Int32) &&& 31).toUInt32).toInt32) &&& (3 : Int32)))]))
              refine own_go (fun t k => XS.iconst X0.here hx rfl (hb hby at_211) k) ?_
              by_cases hc212 : (((p5.toUInt32 >>> ((11 : Int32) &&& 31).toUInt32).toInt32) &&& (3 : Int32)) = (2 : Int32)
              · refine own_go (fun t k => XS.icmpNo X0.here hx rfl (hb hby at_212) rfl (teq hc212).2 k) ?_
                refine own_go (fun t k => XS.iload X0.here hx rfl (hb hby at_215) rfl  k) ?_
                refine own_go (fun t k => XS.iconst X0.here hx rfl (hb hby at_217) k) ?_
                refine own_go (fun t k => XS.iadd X0.here hx rfl (hb hby at_218) rfl k) ?_
                show own_Run p e below Φ (s₁.setTop (mkF m 219 #[.val (.int p1), .val (.int p2), .val (.int p3), .val (.int p4), .val (.int p5), .val (.int p6), .val (.int (2 : Int32)), .val (.long la), .second, .val (.long lb), .second, .val (.long lc), .second, .val (.long ld), .second, .val (.long lb), .second, .val (.int x0), .val (.int x1), .val (.int x2), .val (.int x3), .val (.int (((p5.toUInt32 >>> ((11 : Int32) &&& 31).toUInt32).toInt32) &&& (3 : Int32))), .val (.int kk), .val (.int pk), .unset, .unset, .unset, .unset, .unset] [(.int (pk + (1 : Int32)))]))
                refine own_go (fun t k => XS.istore X0.here hx rfl (hb hby at_219) rfl (l' := #[.val (.int p1), .val (.int p2), .val (.int p3), .val (.int p4), .val (.int p5), .val (.int p6), .val (.int (2 : Int32)), .val (.long la), .second, .val (.long lb), .second, .val (.long lc), .second, .val (.long ld), .second, .val (.long lb), .second, .val (.int x0), .val (.int x1), .val (.int x2), .val (.int x3), .val (.int (((p5.toUInt32 >>> ((11 : Int32) &&& 31).toUInt32).toInt32) &&& (3 : Int32))), .val (.int kk), .val (.int pk), .val (.int (pk + (1 : Int32))), .unset, .unset, .unset, .unset]) rfl k) ?_
                refine own_go (fun t k => XS.goto X0.here hx rfl (pc0 := 221) (pc' := 230) rfl (hb hby at_221) (by decide) (by decide) k) ?_
                exact J230_63 (pk + (1 : Int32)) (((p5.toUInt32 >>> ((11 : Int32) &&& 31).toUInt32).toInt32) &&& (3 : Int32)) kk pk
              · refine own_go (fun t k => XS.icmpYes X0.here hx rfl (pc0 := 212) (pc' := 224) rfl (hb hby at_212) rfl (feq hc212).2 (by decide) (by decide) k) ?_
                refine own_go (fun t k => XS.iload X0.here hx rfl (hb hby at_224) rfl  k) ?_
                refine own_go (fun t k => XS.iconst X0.here hx rfl (hb hby at_226) k) ?_
                refine own_go (fun t k => XS.isub X0.here hx rfl (hb hby at_227) rfl k) ?_
                show own_Run p e below Φ (s₁.setTop (mkF m 228 #[.val (.int p1), .val (.int p2), .val (.int p3), .val (.int p4), .val (.int p5), .val (.int p6), .val (.int (2 : Int32)), .val (.long la), .second, .val (.long lb), .second, .val (.long lc), .second, .val (.long ld), .second, .val (.long lb), .second, .val (.int x0), .val (.int x1), .val (.int x2), .val (.int x3), .val (.int (((p5.toUInt32 >>> ((11 : Int32) &&& 31).toUInt32).toInt32) &&& (3 : Int32))), .val (.int kk), .val (.int pk), .unset, .unset, .unset, .unset, .unset] [(.int (pk - (1 : Int32)))]))
                refine own_go (fun t k => XS.istore X0.here hx rfl (hb hby at_228) rfl (l' := #[.val (.int p1), .val (.int p2), .val (.int p3), .val (.int p4), .val (.int p5), .val (.int p6), .val (.int (2 : Int32)), .val (.long la), .second, .val (.long lb), .second, .val (.long lc), .second, .val (.long ld), .second, .val (.long lb), .second, .val (.int x0), .val (.int x1), .val (.int x2), .val (.int x3), .val (.int (((p5.toUInt32 >>> ((11 : Int32) &&& 31).toUInt32).toInt32) &&& (3 : Int32))), .val (.int kk), .val (.int pk), .val (.int (pk - (1 : Int32))), .unset, .unset, .unset, .unset]) rfl k) ?_
                exact J230_63 (pk - (1 : Int32)) (((p5.toUInt32 >>> ((11 : Int32) &&& 31).toUInt32).toInt32) &&& (3 : Int32)) kk pk
        show own_Run p e below Φ (s₁.setTop (mkF m 143 #[.val (.int p1), .val (.int p2), .val (.int p3), .val (.int p4), .val (.int p5), .val (.int p6), .val (.int (2 : Int32)), .val (.long la), .second, .val (.long lb), .second, .val (.long lc), .second, .val (.long ld), .second, .val (.long lb), .second, .val (.int x0), .val (.int x1), .val (.int x2), .val (.int x3), .val (.int (((p5.toUInt32 >>> ((11 : Int32) &&& 31).toUInt32).toInt32) &&& (3 : Int32))), .val (.int kk), .unset, .unset, .unset, .unset, .unset, .unset] []))
        refine own_go (fun t k => XS.iload X0.here hx rfl (hb hby at_143) rfl  k) ?_
        by_cases hc145 : kk = (0 : Int32)
        · refine own_go (fun t k => XS.ifNo X0.here hx rfl (hb hby at_145) rfl ((if0 _ _).trans (teq hc145).2) k) ?_
          refine own_go (fun t k => XS.iload X0.here hx rfl (hb hby at_148) rfl  k) ?_
          refine own_go (fun t k => XS.goto X0.here hx rfl (pc0 := 150) (pc' := 177) rfl (hb hby at_150) (by decide) (by decide) k) ?_
          exact J177_93 x0
        · refine own_go (fun t k => XS.ifYes X0.here hx rfl (pc0 := 145) (pc' := 153) rfl (hb hby at_145) rfl ((if0 _ _).trans (feq hc145).2) (by decide) (by decide) k) ?_
          refine own_go (fun t k => XS.iload X0.here hx rfl (hb hby at_153) rfl  k) ?_
          show own_Run p e below Φ (s₁.setTop (mkF m 155 #[.val (.int p1), .val (.int p2), .val (.int p3), .val (.int p4), .val (.int p5), .val (.int p6), .val (.int (2 : Int32)), .val (.long la), .second, .val (.long lb), .second, .val (.long lc), .second, .val (.long ld), .second, .val (.long lb), .second, .val (.int x0), .val (.int x1), .val (.int x2), .val (.int x3), .val (.int (((p5.toUInt32 >>> ((11 : Int32) &&& 31).toUInt32).toInt32) &&& (3 : Int32))), .val (.int kk), .unset, .unset, .unset, .unset, .unset, .unset] [(.int kk)]))
          refine own_go (fun t k => XS.iconst X0.here hx rfl (hb hby at_155) k) ?_
          by_cases hc156 : kk = (1 : Int32)
          · refine own_go (fun t k => XS.icmpNo X0.here hx rfl (hb hby at_156) rfl (teq hc156).2 k) ?_
            refine own_go (fun t k => XS.iload X0.here hx rfl (hb hby at_159) rfl  k) ?_
            refine own_go (fun t k => XS.goto X0.here hx rfl (pc0 := 161) (pc' := 177) rfl (hb hby at_161) (by decide) (by decide) k) ?_
            exact J177_93 x1
          · refine own_go (fun t k => XS.icmpYes X0.here hx rfl (pc0 := 156) (pc' := 164) rfl (hb hby at_156) rfl (feq hc156).2 (by decide) (by decide) k) ?_
            refine own_go (fun t k => XS.iload X0.here hx rfl (hb hby at_164) rfl  k) ?_
            show own_Run p e below Φ (s₁.setTop (mkF m 166 #[.val (.int p1), .val (.int p2), .val (.int p3), .val (.int p4), .val (.int p5), .val (.int p6), .val (.int (2 : Int32)), .val (.long la), .second, .val (.long lb), .second, .val (.long lc), .second, .val (.long ld), .second, .val (.long lb), .second, .val (.int x0), .val (.int x1), .val (.int x2), .val (.int x3), .val (.int (((p5.toUInt32 >>> ((11 : Int32) &&& 31).toUInt32).toInt32) &&& (3 : Int32))), .val (.int kk), .unset, .unset, .unset, .unset, .unset, .unset] [(.int kk)]))
            refine own_go (fun t k => XS.iconst X0.here hx rfl (hb hby at_166) k) ?_
            by_cases hc167 : kk = (2 : Int32)
            · refine own_go (fun t k => XS.icmpNo X0.here hx rfl (hb hby at_167) rfl (teq hc167).2 k) ?_
              refine own_go (fun t k => XS.iload X0.here hx rfl (hb hby at_170) rfl  k) ?_
              refine own_go (fun t k => XS.goto X0.here hx rfl (pc0 := 172) (pc' := 177) rfl (hb hby at_172) (by decide) (by decide) k) ?_
              exact J177_93 x2
            · refine own_go (fun t k => XS.icmpYes X0.here hx rfl (pc0 := 167) (pc' := 175) rfl (hb hby at_167) rfl (feq hc167).2 (by decide) (by decide) k) ?_
              refine own_go (fun t k => XS.iload X0.here hx rfl (hb hby at_175) rfl  k) ?_
              exact J177_93 x3
      show own_Run p e below Φ (s₁.setTop (mkF m 121 #[.val (.int p1), .val (.int p2), .val (.int p3), .val (.int p4), .val (.int p5), .val (.int p6), .val (.int (2 : Int32)), .val (.long la), .second, .val (.long lb), .second, .val (.long lc), .second, .val (.long ld), .second, .val (.long lb), .second, .val (.int x0), .val (.int x1), .val (.int x2), .val (.int x3), .val (.int (((p5.toUInt32 >>> ((11 : Int32) &&& 31).toUInt32).toInt32) &&& (3 : Int32))), .unset, .unset, .unset, .unset, .unset, .unset, .unset] []))
      refine own_go (fun t k => XS.iload X0.here hx rfl (hb hby at_121) rfl  k) ?_
      show own_Run p e below Φ (s₁.setTop (mkF m 123 #[.val (.int p1), .val (.int p2), .val (.int p3), .val (.int p4), .val (.int p5), .val (.int p6), .val (.int (2 : Int32)), .val (.long la), .second, .val (.long lb), .second, .val (.long lc), .second, .val (.long ld), .second, .val (.long lb), .second, .val (.int x0), .val (.int x1), .val (.int x2), .val (.int x3), .val (.int (((p5.toUInt32 >>> ((11 : Int32) &&& 31).toUInt32).toInt32) &&& (3 : Int32))), .unset, .unset, .unset, .unset, .unset, .unset, .unset] [(.int (2 : Int32))]))
      refine own_go (fun t k => XS.ifYes X0.here hx rfl (pc0 := 123) (pc' := 130) rfl (hb hby at_123) rfl ((if0 _ _).trans (feq (by decide : ¬ ((2 : Int32) = (0 : Int32)))).2) (by decide) (by decide) k) ?_
      refine own_go (fun t k => XS.iload X0.here hx rfl (hb hby at_130) rfl  k) ?_
      refine own_go (fun t k => XS.iconst X0.here hx rfl (hb hby at_132) k) ?_
      refine own_go (fun t k => XS.iushr X0.here hx rfl (hb hby at_133) rfl k) ?_
      refine own_go (fun t k => XS.sipush X0.here hx rfl (hb hby at_134) k) ?_
      show own_Run p e below Φ (s₁.setTop (mkF m 137 #[.val (.int p1), .val (.int p2), .val (.int p3), .val (.int p4), .val (.int p5), .val (.int p6), .val (.int (2 : Int32)), .val (.long la), .second, .val (.long lb), .second, .val (.long lc), .second, .val (.long ld), .second, .val (.long lb), .second, .val (.int x0), .val (.int x1), .val (.int x2), .val (.int x3), .val (.int (((p5.toUInt32 >>> ((11 : Int32) &&& 31).toUInt32).toInt32) &&& (3 : Int32))), .unset, .unset, .unset, .unset, .unset, .unset, .unset] [(.int (255 : Int32)), (.int ((p5.toUInt32 >>> ((3 : Int32) &&& 31).toUInt32).toInt32))]))
      refine own_go (fun t k => XS.iand X0.here hx rfl (hb hby at_137) rfl k) ?_
      refine own_go (fun t k => XS.iload X0.here hx rfl (hb hby at_138) rfl  k) ?_
      refine own_go (fun t k => Jvm.RoadKit.iremM X0 hx rfl (hb hby at_140) rfl (by decide) k) ?_
      exact J141_92 ((((p5.toUInt32 >>> ((3 : Int32) &&& 31).toUInt32).toInt32) &&& (255 : Int32)) % (2 : Int32))
  · rw [e1]
    show own_Run p e below Φ (s₁.setTop (mkF m 9 #[.val (.int p1), .val (.int p2), .val (.int p3), .val (.int p4), .val (.int p5), .val (.int p6), .val (.int (3 : Int32)), .unset, .unset, .unset, .unset, .unset, .unset, .unset, .unset, .unset, .unset, .unset, .unset, .unset, .unset, .unset, .unset, .unset, .unset, .unset, .unset, .unset, .unset] []))
    refine own_go (fun t k => XS.iloadN X0.here hx rfl (hb hby at_9) rfl  k) ?_
    refine own_go (fun t k => XS.i2l X0.here hx rfl (hb hby at_10) rfl k) ?_
    refine own_go (fun t k => XS.lstore X0.here hx rfl (hb hby at_11) rfl (l' := #[.val (.int p1), .val (.int p2), .val (.int p3), .val (.int p4), .val (.int p5), .val (.int p6), .val (.int (3 : Int32)), .val (.long (p1.toInt64)), .second, .unset, .unset, .unset, .unset, .unset, .unset, .unset, .unset, .unset, .unset, .unset, .unset, .unset, .unset, .unset, .unset, .unset, .unset, .unset, .unset]) rfl k) ?_
    show own_Run p e below Φ (s₁.setTop (mkF m 13 #[.val (.int p1), .val (.int p2), .val (.int p3), .val (.int p4), .val (.int p5), .val (.int p6), .val (.int (3 : Int32)), .val (.long (p1.toInt64)), .second, .unset, .unset, .unset, .unset, .unset, .unset, .unset, .unset, .unset, .unset, .unset, .unset, .unset, .unset, .unset, .unset, .unset, .unset, .unset, .unset] []))
    refine own_go (fun t k => XS.lload X0.here hx rfl (hb hby at_13) rfl  k) ?_
    refine own_go (fun t k => XS.lconst X0.here hx rfl (hb hby at_15) k) ?_
    refine own_go (fun t k => XS.ladd X0.here hx rfl (hb hby at_16) rfl k) ?_
    refine own_go (fun t k => XS.iloadN X0.here hx rfl (hb hby at_17) rfl  k) ?_
    refine own_go (X0.ldcInt hx hown (mvT hZ (hw _ (List.mem_of_getElem? (i := 0) rfl))) (g := (mkF m 18 #[.val (.int p1), .val (.int p2), .val (.int p3), .val (.int p4), .val (.int p5), .val (.int p6), .val (.int (3 : Int32)), .val (.long (p1.toInt64)), .second, .unset, .unset, .unset, .unset, .unset, .unset, .unset, .unset, .unset, .unset, .unset, .unset, .unset, .unset, .unset, .unset, .unset, .unset, .unset, .unset] [(.int p2), (.long ((p1.toInt64) + (1 : Int64)))])) rfl (hb hby at_18)) ?_
    show own_Run p e below Φ (s₁.setTop (mkF m 20 #[.val (.int p1), .val (.int p2), .val (.int p3), .val (.int p4), .val (.int p5), .val (.int p6), .val (.int (3 : Int32)), .val (.long (p1.toInt64)), .second, .unset, .unset, .unset, .unset, .unset, .unset, .unset, .unset, .unset, .unset, .unset, .unset, .unset, .unset, .unset, .unset, .unset, .unset, .unset, .unset] [(.int (65535 : Int32)), (.int p2), (.long ((p1.toInt64) + (1 : Int64)))]))
    refine own_go (fun t k => XS.iand X0.here hx rfl (hb hby at_20) rfl k) ?_
    refine own_go (fun t k => XS.i2l X0.here hx rfl (hb hby at_21) rfl k) ?_
    refine own_go (fun t k => XS.ladd X0.here hx rfl (hb hby at_22) rfl k) ?_
    refine own_go (fun t k => XS.lstore X0.here hx rfl (hb hby at_23) rfl (l' := #[.val (.int p1), .val (.int p2), .val (.int p3), .val (.int p4), .val (.int p5), .val (.int p6), .val (.int (3 : Int32)), .val (.long (p1.toInt64)), .second, .val (.long (((p1.toInt64) + (1 : Int64)) + ((p2 &&& (65535 : Int32)).toInt64))), .second, .unset, .unset, .unset, .unset, .unset, .unset, .unset, .unset, .unset, .unset, .unset, .unset, .unset, .unset, .unset, .unset, .unset, .unset]) rfl k) ?_
    refine own_go (fun t k => XS.lload X0.here hx rfl (hb hby at_25) rfl  k) ?_
    show own_Run p e below Φ (s₁.setTop (mkF m 27 #[.val (.int p1), .val (.int p2), .val (.int p3), .val (.int p4), .val (.int p5), .val (.int p6), .val (.int (3 : Int32)), .val (.long (p1.toInt64)), .second, .val (.long (((p1.toInt64) + (1 : Int64)) + ((p2 &&& (65535 : Int32)).toInt64))), .second, .unset, .unset, .unset, .unset, .unset, .unset, .unset, .unset, .unset, .unset, .unset, .unset, .unset, .unset, .unset, .unset, .unset, .unset] [(.long (((p1.toInt64) + (1 : Int64)) + ((p2 &&& (65535 : Int32)).toInt64)))]))
    refine own_go (fun t k => XS.lconst X0.here hx rfl (hb hby at_27) k) ?_
    refine own_go (fun t k => XS.ladd X0.here hx rfl (hb hby at_28) rfl k) ?_
    refine own_go (fun t k => XS.iloadN X0.here hx rfl (hb hby at_29) rfl  k) ?_
    refine own_go (X0.ldcInt hx hown (mvT hZ (hw _ (List.mem_of_getElem? (i := 0) rfl))) (g := (mkF m 30 #[.val (.int p1), .val (.int p2), .val (.int p3), .val (.int p4), .val (.int p5), .val (.int p6), .val (.int (3 : Int32)), .val (.long (p1.toInt64)), .second, .val (.long (((p1.toInt64) + (1 : Int64)) + ((p2 &&& (65535 : Int32)).toInt64))), .second, .unset, .unset, .unset, .unset, .unset, .unset, .unset, .unset, .unset, .unset, .unset, .unset, .unset, .unset, .unset, .unset, .unset, .unset] [(.int p3), (.long ((((p1.toInt64) + (1 : Int64)) + ((p2 &&& (65535 : Int32)).toInt64)) + (1 : Int64)))])) rfl (hb hby at_30)) ?_
    refine own_go (fun t k => XS.iand X0.here hx rfl (hb hby at_32) rfl k) ?_
    show own_Run p e below Φ (s₁.setTop (mkF m 33 #[.val (.int p1), .val (.int p2), .val (.int p3), .val (.int p4), .val (.int p5), .val (.int p6), .val (.int (3 : Int32)), .val (.long (p1.toInt64)), .second, .val (.long (((p1.toInt64) + (1 : Int64)) + ((p2 &&& (65535 : Int32)).toInt64))), .second, .unset, .unset, .unset, .unset, .unset, .unset, .unset, .unset, .unset, .unset, .unset, .unset, .unset, .unset, .unset, .unset, .unset, .unset] [(.int (p3 &&& (65535 : Int32))), (.long ((((p1.toInt64) + (1 : Int64)) + ((p2 &&& (65535 : Int32)).toInt64)) + (1 : Int64)))]))
    refine own_go (fun t k => XS.i2l X0.here hx rfl (hb hby at_33) rfl k) ?_
    refine own_go (fun t k => XS.ladd X0.here hx rfl (hb hby at_34) rfl k) ?_
    refine own_go (fun t k => XS.lstore X0.here hx rfl (hb hby at_35) rfl (l' := #[.val (.int p1), .val (.int p2), .val (.int p3), .val (.int p4), .val (.int p5), .val (.int p6), .val (.int (3 : Int32)), .val (.long (p1.toInt64)), .second, .val (.long (((p1.toInt64) + (1 : Int64)) + ((p2 &&& (65535 : Int32)).toInt64))), .second, .val (.long (((((p1.toInt64) + (1 : Int64)) + ((p2 &&& (65535 : Int32)).toInt64)) + (1 : Int64)) + ((p3 &&& (65535 : Int32)).toInt64))), .second, .unset, .unset, .unset, .unset, .unset, .unset, .unset, .unset, .unset, .unset, .unset, .unset, .unset, .unset, .unset, .unset]) rfl k) ?_
    refine own_go (fun t k => XS.lload X0.here hx rfl (hb hby at_37) rfl  k) ?_
    refine own_go (fun t k => XS.lconst X0.here hx rfl (hb hby at_39) k) ?_
    show own_Run p e below Φ (s₁.setTop (mkF m 40 #[.val (.int p1), .val (.int p2), .val (.int p3), .val (.int p4), .val (.int p5), .val (.int p6), .val (.int (3 : Int32)), .val (.long (p1.toInt64)), .second, .val (.long (((p1.toInt64) + (1 : Int64)) + ((p2 &&& (65535 : Int32)).toInt64))), .second, .val (.long (((((p1.toInt64) + (1 : Int64)) + ((p2 &&& (65535 : Int32)).toInt64)) + (1 : Int64)) + ((p3 &&& (65535 : Int32)).toInt64))), .second, .unset, .unset, .unset, .unset, .unset, .unset, .unset, .unset, .unset, .unset, .unset, .unset, .unset, .unset, .unset, .unset] [(.long (1 : Int64)), (.long (((((p1.toInt64) + (1 : Int64)) + ((p2 &&& (65535 : Int32)).toInt64)) + (1 : Int64)) + ((p3 &&& (65535 : Int32)).toInt64)))]))
    refine own_go (fun t k => XS.ladd X0.here hx rfl (hb hby at_40) rfl k) ?_
    refine own_go (fun t k => XS.iloadN X0.here hx rfl (hb hby at_41) rfl  k) ?_
    refine own_go (X0.ldcInt hx hown (mvT hZ (hw _ (List.mem_of_getElem? (i := 0) rfl))) (g := (mkF m 42 #[.val (.int p1), .val (.int p2), .val (.int p3), .val (.int p4), .val (.int p5), .val (.int p6), .val (.int (3 : Int32)), .val (.long (p1.toInt64)), .second, .val (.long (((p1.toInt64) + (1 : Int64)) + ((p2 &&& (65535 : Int32)).toInt64))), .second, .val (.long (((((p1.toInt64) + (1 : Int64)) + ((p2 &&& (65535 : Int32)).toInt64)) + (1 : Int64)) + ((p3 &&& (65535 : Int32)).toInt64))), .second, .unset, .unset, .unset, .unset, .unset, .unset, .unset, .unset, .unset, .unset, .unset, .unset, .unset, .unset, .unset, .unset] [(.int p4), (.long ((((((p1.toInt64) + (1 : Int64)) + ((p2 &&& (65535 : Int32)).toInt64)) + (1 : Int64)) + ((p3 &&& (65535 : Int32)).toInt64)) + (1 : Int64)))])) rfl (hb hby at_42)) ?_
    refine own_go (fun t k => XS.iand X0.here hx rfl (hb hby at_44) rfl k) ?_
    refine own_go (fun t k => XS.i2l X0.here hx rfl (hb hby at_45) rfl k) ?_
    show own_Run p e below Φ (s₁.setTop (mkF m 46 #[.val (.int p1), .val (.int p2), .val (.int p3), .val (.int p4), .val (.int p5), .val (.int p6), .val (.int (3 : Int32)), .val (.long (p1.toInt64)), .second, .val (.long (((p1.toInt64) + (1 : Int64)) + ((p2 &&& (65535 : Int32)).toInt64))), .second, .val (.long (((((p1.toInt64) + (1 : Int64)) + ((p2 &&& (65535 : Int32)).toInt64)) + (1 : Int64)) + ((p3 &&& (65535 : Int32)).toInt64))), .second, .unset, .unset, .unset, .unset, .unset, .unset, .unset, .unset, .unset, .unset, .unset, .unset, .unset, .unset, .unset, .unset] [(.long ((p4 &&& (65535 : Int32)).toInt64)), (.long ((((((p1.toInt64) + (1 : Int64)) + ((p2 &&& (65535 : Int32)).toInt64)) + (1 : Int64)) + ((p3 &&& (65535 : Int32)).toInt64)) + (1 : Int64)))]))
    refine own_go (fun t k => XS.ladd X0.here hx rfl (hb hby at_46) rfl k) ?_
    refine own_go (fun t k => XS.lstore X0.here hx rfl (hb hby at_47) rfl (l' := #[.val (.int p1), .val (.int p2), .val (.int p3), .val (.int p4), .val (.int p5), .val (.int p6), .val (.int (3 : Int32)), .val (.long (p1.toInt64)), .second, .val (.long (((p1.toInt64) + (1 : Int64)) + ((p2 &&& (65535 : Int32)).toInt64))), .second, .val (.long (((((p1.toInt64) + (1 : Int64)) + ((p2 &&& (65535 : Int32)).toInt64)) + (1 : Int64)) + ((p3 &&& (65535 : Int32)).toInt64))), .second, .val (.long (((((((p1.toInt64) + (1 : Int64)) + ((p2 &&& (65535 : Int32)).toInt64)) + (1 : Int64)) + ((p3 &&& (65535 : Int32)).toInt64)) + (1 : Int64)) + ((p4 &&& (65535 : Int32)).toInt64))), .second, .unset, .unset, .unset, .unset, .unset, .unset, .unset, .unset, .unset, .unset, .unset, .unset, .unset, .unset]) rfl k) ?_
    show own_Run p e below Φ (s₁.setTop (mkF m 49 #[.val (.int p1), .val (.int p2), .val (.int p3), .val (.int p4), .val (.int p5), .val (.int p6), .val (.int (3 : Int32)), .val (.long (p1.toInt64)), .second, .val (.long (((p1.toInt64) + (1 : Int64)) + ((p2 &&& (65535 : Int32)).toInt64))), .second, .val (.long (((((p1.toInt64) + (1 : Int64)) + ((p2 &&& (65535 : Int32)).toInt64)) + (1 : Int64)) + ((p3 &&& (65535 : Int32)).toInt64))), .second, .val (.long (((((((p1.toInt64) + (1 : Int64)) + ((p2 &&& (65535 : Int32)).toInt64)) + (1 : Int64)) + ((p3 &&& (65535 : Int32)).toInt64)) + (1 : Int64)) + ((p4 &&& (65535 : Int32)).toInt64))), .second, .unset, .unset, .unset, .unset, .unset, .unset, .unset, .unset, .unset, .unset, .unset, .unset, .unset, .unset] []))
    have r0 := rng32 p1
    have q0 := c_i2l p1
    generalize ela : (p1.toInt64) = la at q0 ⊢
    obtain ⟨qlb, mlb, wlb⟩ := own_up la p2 (by omega) (by omega)
    generalize elb : ((la + (1 : Int64)) + ((p2 &&& (65535 : Int32)).toInt64)) = lb at qlb ⊢
    obtain ⟨qlc, mlc, wlc⟩ := own_up lb p3 (by omega) (by omega)
    generalize elc : ((lb + (1 : Int64)) + ((p3 &&& (65535 : Int32)).toInt64)) = lc at qlc ⊢
    obtain ⟨qld, mld, wld⟩ := own_up lc p4 (by omega) (by omega)
    generalize eld : ((lc + (1 : Int64)) + ((p4 &&& (65535 : Int32)).toInt64)) = ld at qld ⊢
    show own_Run p e below Φ (s₁.setTop (mkF m 49 #[.val (.int p1), .val (.int p2), .val (.int p3), .val (.int p4), .val (.int p5), .val (.int p6), .val (.int (3 : Int32)), .val (.long la), .second, .val (.long lb), .second, .val (.long lc), .second, .val (.long ld), .second, .unset, .unset, .unset, .unset, .unset, .unset, .unset, .unset, .unset, .unset, .unset, .unset, .unset, .unset] []))
    refine own_go (fun t k => XS.iload X0.here hx rfl (hb hby at_49) rfl  k) ?_
    refine own_go (fun t k => XS.iconst X0.here hx rfl (hb hby at_51) k) ?_
    refine own_go (fun t k => XS.icmpYes X0.here hx rfl (pc0 := 52) (pc' := 60) rfl (hb hby at_52) rfl (feq (by decide : ¬ ((3 : Int32) = (4 : Int32)))).2 (by decide) (by decide) k) ?_
    refine own_go (fun t k => XS.iload X0.here hx rfl (hb hby at_60) rfl  k) ?_
    refine own_go (fun t k => XS.iconst X0.here hx rfl (hb hby at_62) k) ?_
    show own_Run p e below Φ (s₁.setTop (mkF m 63 #[.val (.int p1), .val (.int p2), .val (.int p3), .val (.int p4), .val (.int p5), .val (.int p6), .val (.int (3 : Int32)), .val (.long la), .second, .val (.long lb), .second, .val (.long lc), .second, .val (.long ld), .second, .unset, .unset, .unset, .unset, .unset, .unset, .unset, .unset, .unset, .unset, .unset, .unset, .unset, .unset] [(.int (3 : Int32)), (.int (3 : Int32))]))
    refine own_go (fun t k => XS.icmpNo X0.here hx rfl (hb hby at_63) rfl (teq (rfl : (3 : Int32) = (3 : Int32))).2 k) ?_
    refine own_go (fun t k => XS.lload X0.here hx rfl (hb hby at_66) rfl  k) ?_
    refine own_go (fun t k => XS.goto X0.here hx rfl (pc0 := 68) (pc' := 73) rfl (hb hby at_68) (by decide) (by decide) k) ?_
    refine own_go (fun t k => XS.lstore X0.here hx rfl (hb hby at_73) rfl (l' := #[.val (.int p1), .val (.int p2), .val (.int p3), .val (.int p4), .val (.int p5), .val (.int p6), .val (.int (3 : Int32)), .val (.long la), .second, .val (.long lb), .second, .val (.long lc), .second, .val (.long ld), .second, .val (.long lc), .second, .unset, .unset, .unset, .unset, .unset, .unset, .unset, .unset, .unset, .unset, .unset, .unset]) rfl k) ?_
    refine own_go (fun t k => XS.iload X0.here hx rfl (hb hby at_75) rfl  k) ?_
    show own_Run p e below Φ (s₁.setTop (mkF m 77 #[.val (.int p1), .val (.int p2), .val (.int p3), .val (.int p4), .val (.int p5), .val (.int p6), .val (.int (3 : Int32)), .val (.long la), .second, .val (.long lb), .second, .val (.long lc), .second, .val (.long ld), .second, .val (.long lc), .second, .unset, .unset, .unset, .unset, .unset, .unset, .unset, .unset, .unset, .unset, .unset, .unset] [(.int (3 : Int32))]))
    refine own_go (fun t k => XS.iconst X0.here hx rfl (hb hby at_77) k) ?_
    refine own_go (fun t k => XS.icmpNo X0.here hx rfl (hb hby at_78) rfl (flt (by decide : ¬ ((3 : Int32) < (2 : Int32)))).1 k) ?_
    refine own_go (fun t k => XS.lload X0.here hx rfl (hb hby at_81) rfl  k) ?_
    refine own_go (X0.ldc2Long hx hown (mvT hZ (hw _ (List.mem_of_getElem? (i := 32) rfl))) (g := (mkF m 83 #[.val (.int p1), .val (.int p2), .val (.int p3), .val (.int p4), .val (.int p5), .val (.int p6), .val (.int (3 : Int32)), .val (.long la), .second, .val (.long lb), .second, .val (.long lc), .second, .val (.long ld), .second, .val (.long lc), .second, .unset, .unset, .unset, .unset, .unset, .unset, .unset, .unset, .unset, .unset, .unset, .unset] [(.long lc)])) rfl (hb hby at_83)) ?_
    refine own_go (fun t k => XS.lcmp X0.here hx rfl (hb hby at_86) rfl k) ?_
    show own_Run p e below Φ (s₁.setTop (mkF m 87 #[.val (.int p1), .val (.int p2), .val (.int p3), .val (.int p4), .val (.int p5), .val (.int p6), .val (.int (3 : Int32)), .val (.long la), .second, .val (.long lb), .second, .val (.long lc), .second, .val (.long ld), .second, .val (.long lc), .second, .unset, .unset, .unset, .unset, .unset, .unset, .unset, .unset, .unset, .unset, .unset, .unset] [(.int (lcmpW lc (2147483647 : Int64)))]))
    by_cases hc87 : (0 : Int32) < (lcmpW lc (2147483647 : Int64))
    · refine own_go (fun t k => XS.ifNo X0.here hx rfl (hb hby at_87) rfl ((if0 _ _).trans (tlt hc87).2.2.2) k) ?_
      refine own_go (fun t k => XS.iconst X0.here hx rfl (hb hby at_90) k) ?_
      subst hΦ
      exact own_retN X0 hx (t := .boolean) Bd.returns (by simp) hlk (hb hby at_91) e0 ⟨rfl, N0⟩ (by decide) (by decide)
    · refine own_go (fun t k => XS.ifYes X0.here hx rfl (pc0 := 87) (pc' := 92) rfl (hb hby at_87) rfl ((if0 _ _).trans (flt hc87).2.2.2) (by decide) (by decide) k) ?_
      refine own_go (fun t k => XS.lload X0.here hx rfl (hb hby at_92) rfl  k) ?_
      refine own_go (fun t k => XS.l2i X0.here hx rfl (hb hby at_94) rfl k) ?_
      show own_Run p e below Φ (s₁.setTop (mkF m 95 #[.val (.int p1), .val (.int p2), .val (.int p3), .val (.int p4), .val (.int p5), .val (.int p6), .val (.int (3 : Int32)), .val (.long la), .second, .val (.long lb), .second, .val (.long lc), .second, .val (.long ld), .second, .val (.long lc), .second, .unset, .unset, .unset, .unset, .unset, .unset, .unset, .unset, .unset, .unset, .unset, .unset] [(.int (la.toInt32))]))
      refine own_go (fun t k => XS.istore X0.here hx rfl (hb hby at_95) rfl (l' := #[.val (.int p1), .val (.int p2), .val (.int p3), .val (.int p4), .val (.int p5), .val (.int p6), .val (.int (3 : Int32)), .val (.long la), .second, .val (.long lb), .second, .val (.long lc), .second, .val (.long ld), .second, .val (.long lc), .second, .val (.int (la.toInt32)), .unset, .unset, .unset, .unset, .unset, .unset, .unset, .unset, .unset, .unset, .unset]) rfl k) ?_
      refine own_go (fun t k => XS.lload X0.here hx rfl (hb hby at_97) rfl  k) ?_
      refine own_go (fun t k => XS.l2i X0.here hx rfl (hb hby at_99) rfl k) ?_
      refine own_go (fun t k => XS.istore X0.here hx rfl (hb hby at_100) rfl (l' := #[.val (.int p1), .val (.int p2), .val (.int p3), .val (.int p4), .val (.int p5), .val (.int p6), .val (.int (3 : Int32)), .val (.long la), .second, .val (.long lb), .second, .val (.long lc), .second, .val (.long ld), .second, .val (.long lc), .second, .val (.int (la.toInt32)), .val (.int (lb.toInt32)), .unset, .unset, .unset, .unset, .unset, .unset, .unset, .unset, .unset, .unset]) rfl k) ?_
      refine own_go (fun t k => XS.lload X0.here hx rfl (hb hby at_102) rfl  k) ?_
      show own_Run p e below Φ (s₁.setTop (mkF m 104 #[.val (.int p1), .val (.int p2), .val (.int p3), .val (.int p4), .val (.int p5), .val (.int p6), .val (.int (3 : Int32)), .val (.long la), .second, .val (.long lb), .second, .val (.long lc), .second, .val (.long ld), .second, .val (.long lc), .second, .val (.int (la.toInt32)), .val (.int (lb.toInt32)), .unset, .unset, .unset, .unset, .unset, .unset, .unset, .unset, .unset, .unset] [(.long lc)]))
      refine own_go (fun t k => XS.l2i X0.here hx rfl (hb hby at_104) rfl k) ?_
      refine own_go (fun t k => XS.istore X0.here hx rfl (hb hby at_105) rfl (l' := #[.val (.int p1), .val (.int p2), .val (.int p3), .val (.int p4), .val (.int p5), .val (.int p6), .val (.int (3 : Int32)), .val (.long la), .second, .val (.long lb), .second, .val (.long lc), .second, .val (.long ld), .second, .val (.long lc), .second, .val (.int (la.toInt32)), .val (.int (lb.toInt32)), .val (.int (lc.toInt32)), .unset, .unset, .unset, .unset, .unset, .unset, .unset, .unset, .unset]) rfl k) ?_
      refine own_go (fun t k => XS.lload X0.here hx rfl (hb hby at_107) rfl  k) ?_
      refine own_go (fun t k => XS.l2i X0.here hx rfl (hb hby at_109) rfl k) ?_
      refine own_go (fun t k => XS.istore X0.here hx rfl (hb hby at_110) rfl (l' := #[.val (.int p1), .val (.int p2), .val (.int p3), .val (.int p4), .val (.int p5), .val (.int p6), .val (.int (3 : Int32)), .val (.long la), .second, .val (.long lb), .second, .val (.long lc), .second, .val (.long ld), .second, .val (.long lc), .second, .val (.int (la.toInt32)), .val (.int (lb.toInt32)), .val (.int (lc.toInt32)), .val (.int (ld.toInt32)), .unset, .unset, .unset, .unset, .unset, .unset, .unset, .unset]) rfl k) ?_
      show own_Run p e below Φ (s₁.setTop (mkF m 112 #[.val (.int p1), .val (.int p2), .val (.int p3), .val (.int p4), .val (.int p5), .val (.int p6), .val (.int (3 : Int32)), .val (.long la), .second, .val (.long lb), .second, .val (.long lc), .second, .val (.long ld), .second, .val (.long lc), .second, .val (.int (la.toInt32)), .val (.int (lb.toInt32)), .val (.int (lc.toInt32)), .val (.int (ld.toInt32)), .unset, .unset, .unset, .unset, .unset, .unset, .unset, .unset] []))
      have top := own_top _ hc87
      have d0 := own_dn la (by omega) (by omega)
      generalize ed0 : la.toInt32 = x0 at d0 ⊢
      have d1 := own_dn lb (by omega) (by omega)
      generalize ed1 : lb.toInt32 = x1 at d1 ⊢
      have d2 := own_dn lc (by omega) (by omega)
      generalize ed2 : lc.toInt32 = x2 at d2 ⊢
      generalize ed3 : ld.toInt32 = x3
      have J230_94 : ∀ (q : Int32) (m1 : Int32) (m2 : Int32) (m3 : Int32), own_Run p e below Φ (s₁.setTop (mkF m 230 #[.val (.int p1), .val (.int p2), .val (.int p3), .val (.int p4), .val (.int p5), .val (.int p6), .val (.int (3 : Int32)), .val (.long la), .second, .val (.long lb), .second, .val (.long lc), .second, .val (.long ld), .second, .val (.long lc), .second, .val (.int x0), .val (.int x1), .val (.int x2), .val (.int x3), .val (.int m1), .val (.int m2), .val (.int m3), .val (.int q), .unset, .unset, .unset, .unset] [])) := by
        intro q m1 m2 m3
        show own_Run p e below Φ (s₁.setTop (mkF m 230 #[.val (.int p1), .val (.int p2), .val (.int p3), .val (.int p4), .val (.int p5), .val (.int p6), .val (.int (3 : Int32)), .val (.long la), .second, .val (.long lb), .second, .val (.long lc), .second, .val (.long ld), .second, .val (.long lc), .second, .val (.int x0), .val (.int x1), .val (.int x2), .val (.int x3), .val (.int m1), .val (.int m2), .val (.int m3), .val (.int q), .unset, .unset, .unset, .unset] []))
        refine own_go (fun t k => XS.iconst X0.here hx rfl (hb hby at_230) k) ?_
        refine own_newP X0 hx hZ (hw _ (List.mem_of_getElem? (i := 1) rfl)) e0 (g := (mkF m 231 #[.val (.int p1), .val (.int p2), .val (.int p3), .val (.int p4), .val (.int p5), .val (.int p6), .val (.int (3 : Int32)), .val (.long la), .second, .val (.long lb), .second, .val (.long lc), .second, .val (.long ld), .second, .val (.long lc), .second, .val (.int x0), .val (.int x1), .val (.int x2), .val (.int x3), .val (.int m1), .val (.int m2), .val (.int m3), .val (.int q), .unset, .unset, .unset, .unset] [(.int (5 : Int32))])) rfl (hb hby at_231) rfl (by decide) 5 (by decide) (by decide) (by decide) (by decide) 5 (fun T95 h95 k95 b95 X95 e95 E95 g95 V95 => ?_)
        replace V95 : Arv Z h95 b95 k95 .int (5 : Int32) [(.int (0 : Int32)), (.int (0 : Int32)), (.int (0 : Int32)), (.int (0 : Int32)), (.int (0 : Int32))] (.int (0 : Int32)) := V95
        refine own_go (fun t k => XS.astore X95.here hx rfl (hb hby at_233) rfl rfl (l' := #[.val (.int p1), .val (.int p2), .val (.int p3), .val (.int p4), .val (.int p5), .val (.int p6), .val (.int (3 : Int32)), .val (.long la), .second, .val (.long lb), .second, .val (.long lc), .second, .val (.long ld), .second, .val (.long lc), .second, .val (.int x0), .val (.int x1), .val (.int x2), .val (.int x3), .val (.int m1), .val (.int m2), .val (.int m3), .val (.int q), .val (.ref b95), .unset, .unset, .unset]) rfl k) ?_
        refine own_go (fun t k => XS.iconst X95.here hx rfl (hb hby at_235) k) ?_
        have F98 : n0 ≤ h95.size := (Nat.le_trans Z0 E95.1)
        refine own_newP X95 hx hZ (hw _ (List.mem_of_getElem? (i := 1) rfl)) e95 (g := (mkF m 236 #[.val (.int p1), .val (.int p2), .val (.int p3), .val (.int p4), .val (.int p5), .val (.int p6), .val (.int (3 : Int32)), .val (.long la), .second, .val (.long lb), .second, .val (.long lc), .second, .val (.long ld), .second, .val (.long lc), .second, .val (.int x0), .val (.int x1), .val (.int x2), .val (.int x3), .val (.int m1), .val (.int m2), .val (.int m3), .val (.int q), .val (.ref b95), .unset, .unset, .unset] [(.int (5 : Int32))])) rfl (hb hby at_236) rfl (by decide) 5 (by decide) (by decide) (by decide) (by decide) 5 (fun T97 h97 k97 b97 X97 e97 E97 g97 V97 => ?_)
        have ne_b95_b97 : b95 ≠ b97 := Nat.ne_of_lt (Nat.lt_of_lt_of_le V95.lt (Nat.le_of_eq g97.symm))
        replace V97 : Arv Z h97 b97 k97 .int (5 : Int32) [(.int (0 : Int32)), (.int (0 : Int32)), (.int (0 : Int32)), (.int (0 : Int32)), (.int (0 : Int32))] (.int (0 : Int32)) := V97
        show own_Run p e below Φ (T97.setTop (mkF m 238 #[.val (.int p1), .val (.int p2), .val (.int p3), .val (.int p4), .val (.int p5), .val (.int p6), .val (.int (3 : Int32)), .val (.long la), .second, .val (.long lb), .second, .val (.long lc), .second, .val (.long ld), .second, .val (.long lc), .second, .val (.int x0), .val (.int x1), .val (.int x2), .val (.int x3), .val (.int m1), .val (.int m2), .val (.int m3), .val (.int q), .val (.ref b95), .unset, .unset, .unset] [(.ref b97)]))
        refine own_go (fun t k => XS.astore X97.here hx rfl (hb hby at_238) rfl rfl (l' := #[.val (.int p1), .val (.int p2), .val (.int p3), .val (.int p4), .val (.int p5), .val (.int p6), .val (.int (3 : Int32)), .val (.long la), .second, .val (.long lb), .second, .val (.long lc), .second, .val (.long ld), .second, .val (.long lc), .second, .val (.int x0), .val (.int x1), .val (.int x2), .val (.int x3), .val (.int m1), .val (.int m2), .val (.int m3), .val (.int q), .val (.ref b95), .val (.ref b97), .unset, .unset]) rfl k) ?_
        refine own_go (fun t k => XS.aload X97.here hx rfl (hb hby at_240) rfl rfl  k) ?_
        refine own_go (fun t k => XS.iconst X97.here hx rfl (hb hby at_242) k) ?_
        refine own_go (fun t k => XS.iload X97.here hx rfl (hb hby at_243) rfl  k) ?_
        refine own_go (fun t k => XS.ifNo X97.here hx rfl (hb hby at_245) rfl ((if0 _ _).trans (tlt (by decide : (0 : Int32) < (3 : Int32))).2.2.2) k) ?_
        show own_Run p e below Φ (T97.setTop (mkF m 248 #[.val (.int p1), .val (.int p2), .val (.int p3), .val (.int p4), .val (.int p5), .val (.int p6), .val (.int (3 : Int32)), .val (.long la), .second, .val (.long lb), .second, .val (.long lc), .second, .val (.long ld), .second, .val (.long lc), .second, .val (.int x0), .val (.int x1), .val (.int x2), .val (.int x3), .val (.int m1), .val (.int m2), .val (.int m3), .val (.int q), .val (.ref b95), .val (.ref b97), .unset, .unset] [(.int (0 : Int32)), (.ref b95)]))
        refine own_go (fun t k => XS.iload X97.here hx rfl (hb hby at_248) rfl  k) ?_
        refine own_go (fun t k => XS.goto X97.here hx rfl (pc0 := 250) (pc' := 255) rfl (hb hby at_250) (by decide) (by decide) k) ?_
        have F100 : Arv Z h97 b95 k95 .int (5 : Int32) [(.int (0 : Int32)), (.int (0 : Int32)), (.int (0 : Int32)), (.int (0 : Int32)), (.int (0 : Int32))] (.int (0 : Int32)) := (V95.ext E97)
        refine own_iastore X97 hx hZ e97 F100 (j := (0 : Int32)) ⟨by decide, by decide⟩ 0 rfl (Nat.le_of_ble_eq_true rfl) (g := (mkF m 255 #[.val (.int p1), .val (.int p2), .val (.int p3), .val (.int p4), .val (.int p5), .val (.int p6), .val (.int (3 : Int32)), .val (.long la), .second, .val (.long lb), .second, .val (.long lc), .second, .val (.long ld), .second, .val (.long lc), .second, .val (.int x0), .val (.int x1), .val (.int x2), .val (.int x3), .val (.int m1), .val (.int m2), .val (.int m3), .val (.int q), .val (.ref b95), .val (.ref b97), .unset, .unset] [(.int x0), (.int (0 : Int32)), (.ref b95)])) rfl rfl (hb hby at_255) (fun T101 h101 X101 e101 W101 V101 => ?_)
        replace V101 : Arv Z h101 b95 k95 .int (5 : Int32) [(.int x0), (.int (0 : Int32)), (.int (0 : Int32)), (.int (0 : Int32)), (.int (0 : Int32))] (.int (0 : Int32)) := V101
        have N101 := Fr.snoc X101 N0 (Nat.le_trans Z0 (Nat.le_of_eq g95.symm))
        refine own_go (fun t k => XS.aload X101.here hx rfl (hb hby at_256) rfl rfl  k) ?_
        refine own_go (fun t k => XS.iconst X101.here hx rfl (hb hby at_258) k) ?_
        show own_Run p e below Φ (T101.setTop (mkF m 259 #[.val (.int p1), .val (.int p2), .val (.int p3), .val (.int p4), .val (.int p5), .val (.int p6), .val (.int (3 : Int32)), .val (.long la), .second, .val (.long lb), .second, .val (.long lc), .second, .val (.long ld), .second, .val (.long lc), .second, .val (.int x0), .val (.int x1), .val (.int x2), .val (.int x3), .val (.int m1), .val (.int m2), .val (.int m3), .val (.int q), .val (.ref b95), .val (.ref b97), .unset, .unset] [(.int (1 : Int32)), (.ref b95)]))
        refine own_go (fun t k => XS.iload X101.here hx rfl (hb hby at_259) rfl  k) ?_
        refine own_go (fun t k => XS.iconst X101.here hx rfl (hb hby at_261) k) ?_
        refine own_go (fun t k => XS.icmpNo X101.here hx rfl (hb hby at_262) rfl (tlt (by decide : (1 : Int32) < (3 : Int32))).2.2.2 k) ?_
        refine own_go (fun t k => XS.iload X101.here hx rfl (hb hby at_265) rfl  k) ?_
        refine own_go (fun t k => XS.goto X101.here hx rfl (pc0 := 267) (pc' := 272) rfl (hb hby at_267) (by decide) (by decide) k) ?_
        show own_Run p e below Φ (T101.setTop (mkF m 272 #[.val (.int p1), .val (.int p2), .val (.int p3), .val (.int p4), .val (.int p5), .val (.int p6), .val (.int (3 : Int32)), .val (.long la), .second, .val (.long lb), .second, .val (.long lc), .second, .val (.long ld), .second, .val (.long lc), .second, .val (.int x0), .val (.int x1), .val (.int x2), .val (.int x3), .val (.int m1), .val (.int m2), .val (.int m3), .val (.int q), .val (.ref b95), .val (.ref b97), .unset, .unset] [(.int x1), (.int (1 : Int32)), (.ref b95)]))
        refine own_iastore X101 hx hZ e101 V101 (j := (1 : Int32)) ⟨by decide, by decide⟩ 1 rfl (Nat.le_of_ble_eq_true rfl) (g := (mkF m 272 #[.val (.int p1), .val (.int p2), .val (.int p3), .val (.int p4), .val (.int p5), .val (.int p6), .val (.int (3 : Int32)), .val (.long la), .second, .val (.long lb), .second, .val (.long lc), .second, .val (.long ld), .second, .val (.long lc), .second, .val (.int x0), .val (.int x1), .val (.int x2), .val (.int x3), .val (.int m1), .val (.int m2), .val (.int m3), .val (.int q), .val (.ref b95), .val (.ref b97), .unset, .unset] [(.int x1), (.int (1 : Int32)), (.ref b95)])) rfl rfl (hb hby at_272) (fun T102 h102 X102 e102 W102 V102 => ?_)
        replace V102 : Arv Z h102 b95 k95 .int (5 : Int32) [(.int x0), (.int x1), (.int (0 : Int32)), (.int (0 : Int32)), (.int (0 : Int32))] (.int (0 : Int32)) := V102
        have N102 := Fr.snoc X102 N101 (Nat.le_trans Z0 (Nat.le_of_eq g95.symm))
        refine own_go (fun t k => XS.aload X102.here hx rfl (hb hby at_273) rfl rfl  k) ?_
        refine own_go (fun t k => XS.iconst X102.here hx rfl (hb hby at_275) k) ?_
        refine own_go (fun t k => XS.iload X102.here hx rfl (hb hby at_276) rfl  k) ?_
        refine own_go (fun t k => XS.iconst X102.here hx rfl (hb hby at_278) k) ?_
        show own_Run p e below Φ (T102.setTop (mkF m 279 #[.val (.int p1), .val (.int p2), .val (.int p3), .val (.int p4), .val (.int p5), .val (.int p6), .val (.int (3 : Int32)), .val (.long la), .second, .val (.long lb), .second, .val (.long lc), .second, .val (.long ld), .second, .val (.long lc), .second, .val (.int x0), .val (.int x1), .val (.int x2), .val (.int x3), .val (.int m1), .val (.int m2), .val (.int m3), .val (.int q), .val (.ref b95), .val (.ref b97), .unset, .unset] [(.int (2 : Int32)), (.int (3 : Int32)), (.int (2 : Int32)), (.ref b95)]))
        refine own_go (fun t k => XS.icmpNo X102.here hx rfl (hb hby at_279) rfl (tlt (by decide : (2 : Int32) < (3 : Int32))).2.2.2 k) ?_
        refine own_go (fun t k => XS.iload X102.here hx rfl (hb hby at_282) rfl  k) ?_
        refine own_go (fun t k => XS.goto X102.here hx rfl (pc0 := 284) (pc' := 289) rfl (hb hby at_284) (by decide) (by decide) k) ?_
        refine own_iastore X102 hx hZ e102 V102 (j := (2 : Int32)) ⟨by decide, by decide⟩ 2 rfl (Nat.le_of_ble_eq_true rfl) (g := (mkF m 289 #[.val (.int p1), .val (.int p2), .val (.int p3), .val (.int p4), .val (.int p5), .val (.int p6), .val (.int (3 : Int32)), .val (.long la), .second, .val (.long lb), .second, .val (.long lc), .second, .val (.long ld), .second, .val (.long lc), .second, .val (.int x0), .val (.int x1), .val (.int x2), .val (.int x3), .val (.int m1), .val (.int m2), .val (.int m3), .val (.int q), .val (.ref b95), .val (.ref b97), .unset, .unset] [(.int x2), (.int (2 : Int32)), (.ref b95)])) rfl rfl (hb hby at_289) (fun T103 h103 X103 e103 W103 V103 => ?_)
        replace V103 : Arv Z h103 b95 k95 .int (5 : Int32) [(.int x0), (.int x1), (.int x2), (.int (0 : Int32)), (.int (0 : Int32))] (.int (0 : Int32)) := V103
        have N103 := Fr.snoc X103 N102 (Nat.le_trans Z0 (Nat.le_of_eq g95.symm))
        refine own_go (fun t k => XS.aload X103.here hx rfl (hb hby at_290) rfl rfl  k) ?_
        show own_Run p e below Φ (T103.setTop (mkF m 292 #[.val (.int p1), .val (.int p2), .val (.int p3), .val (.int p4), .val (.int p5), .val (.int p6), .val (.int (3 : Int32)), .val (.long la), .second, .val (.long lb), .second, .val (.long lc), .second, .val (.long ld), .second, .val (.long lc), .second, .val (.int x0), .val (.int x1), .val (.int x2), .val (.int x3), .val (.int m1), .val (.int m2), .val (.int m3), .val (.int q), .val (.ref b95), .val (.ref b97), .unset, .unset] [(.ref b95)]))
        refine own_go (fun t k => XS.iconst X103.here hx rfl (hb hby at_292) k) ?_
        refine own_go (fun t k => XS.iload X103.here hx rfl (hb hby at_293) rfl  k) ?_
        refine own_go (fun t k => XS.iconst X103.here hx rfl (hb hby at_295) k) ?_
        refine own_go (fun t k => XS.icmpYes X103.here hx rfl (pc0 := 296) (pc' := 304) rfl (hb hby at_296) rfl (flt (by decide : ¬ ((3 : Int32) < (3 : Int32)))).2.2.2 (by decide) (by decide) k) ?_
        refine own_go (fun t k => XS.iload X103.here hx rfl (hb hby at_304) rfl  k) ?_
        show own_Run p e below Φ (T103.setTop (mkF m 306 #[.val (.int p1), .val (.int p2), .val (.int p3), .val (.int p4), .val (.int p5), .val (.int p6), .val (.int (3 : Int32)), .val (.long la), .second, .val (.long lb), .second, .val (.long lc), .second, .val (.long ld), .second, .val (.long lc), .second, .val (.int x0), .val (.int x1), .val (.int x2), .val (.int x3), .val (.int m1), .val (.int m2), .val (.int m3), .val (.int q), .val (.ref b95), .val (.ref b97), .unset, .unset] [(.int q), (.int (3 : Int32)), (.ref b95)]))
        refine own_iastore X103 hx hZ e103 V103 (j := (3 : Int32)) ⟨by decide, by decide⟩ 3 rfl (Nat.le_of_ble_eq_true rfl) (g := (mkF m 306 #[.val (.int p1), .val (.int p2), .val (.int p3), .val (.int p4), .val (.int p5), .val (.int p6), .val (.int (3 : Int32)), .val (.long la), .second, .val (.long lb), .second, .val (.long lc), .second, .val (.long ld), .second, .val (.long lc), .second, .val (.int x0), .val (.int x1), .val (.int x2), .val (.int x3), .val (.int m1), .val (.int m2), .val (.int m3), .val (.int q), .val (.ref b95), .val (.ref b97), .unset, .unset] [(.int q), (.int (3 : Int32)), (.ref b95)])) rfl rfl (hb hby at_306) (fun T104 h104 X104 e104 W104 V104 => ?_)
        replace V104 : Arv Z h104 b95 k95 .int (5 : Int32) [(.int x0), (.int x1), (.int x2), (.int q), (.int (0 : Int32))] (.int (0 : Int32)) := V104
        have N104 := Fr.snoc X104 N103 (Nat.le_trans Z0 (Nat.le_of_eq g95.symm))
        refine own_go (fun t k => XS.aload X104.here hx rfl (hb hby at_307) rfl rfl  k) ?_
        refine own_go (fun t k => XS.iconst X104.here hx rfl (hb hby at_309) k) ?_
        refine own_go (fun t k => XS.iload X104.here hx rfl (hb hby at_310) rfl  k) ?_
        refine own_iastore X104 hx hZ e104 V104 (j := (4 : Int32)) ⟨by decide, by decide⟩ 4 rfl (Nat.le_of_ble_eq_true rfl) (g := (mkF m 312 #[.val (.int p1), .val (.int p2), .val (.int p3), .val (.int p4), .val (.int p5), .val (.int p6), .val (.int (3 : Int32)), .val (.long la), .second, .val (.long lb), .second, .val (.long lc), .second, .val (.long ld), .second, .val (.long lc), .second, .val (.int x0), .val (.int x1), .val (.int x2), .val (.int x3), .val (.int m1), .val (.int m2), .val (.int m3), .val (.int q), .val (.ref b95), .val (.ref b97), .unset, .unset] [(.int q), (.int (4 : Int32)), (.ref b95)])) rfl rfl (hb hby at_312) (fun T105 h105 X105 e105 W105 V105 => ?_)
        replace V105 : Arv Z h105 b95 k95 .int (5 : Int32) [(.int x0), (.int x1), (.int x2), (.int q), (.int q)] (.int (0 : Int32)) := V105
        have N105 := Fr.snoc X105 N104 (Nat.le_trans Z0 (Nat.le_of_eq g95.symm))
        show own_Run p e below Φ (T105.setTop (mkF m 313 #[.val (.int p1), .val (.int p2), .val (.int p3), .val (.int p4), .val (.int p5), .val (.int p6), .val (.int (3 : Int32)), .val (.long la), .second, .val (.long lb), .second, .val (.long lc), .second, .val (.long ld), .second, .val (.long lc), .second, .val (.int x0), .val (.int x1), .val (.int x2), .val (.int x3), .val (.int m1), .val (.int m2), .val (.int m3), .val (.int q), .val (.ref b95), .val (.ref b97), .unset, .unset] []))
        refine own_go (fun t k => XS.aload X105.here hx rfl (hb hby at_313) rfl rfl  k) ?_
        refine own_go (fun t k => XS.iconst X105.here hx rfl (hb hby at_315) k) ?_
        refine own_go (fun t k => XS.iconst X105.here hx rfl (hb hby at_316) k) ?_
        have F106 : Arv Z h105 b97 k97 .int (5 : Int32) [(.int (0 : Int32)), (.int (0 : Int32)), (.int (0 : Int32)), (.int (0 : Int32)), (.int (0 : Int32))] (.int (0 : Int32)) := (((((V97.other W101 (Ne.symm ne_b95_b97)).other W102 (Ne.symm ne_b95_b97)).other W103 (Ne.symm ne_b95_b97)).other W104 (Ne.symm ne_b95_b97)).other W105 (Ne.symm ne_b95_b97))
        refine own_iastore X105 hx hZ e105 F106 (j := (0 : Int32)) ⟨by decide, by decide⟩ 0 rfl (Nat.le_of_ble_eq_true rfl) (g := (mkF m 317 #[.val (.int p1), .val (.int p2), .val (.int p3), .val (.int p4), .val (.int p5), .val (.int p6), .val (.int (3 : Int32)), .val (.long la), .second, .val (.long lb), .second, .val (.long lc), .second, .val (.long ld), .second, .val (.long lc), .second, .val (.int x0), .val (.int x1), .val (.int x2), .val (.int x3), .val (.int m1), .val (.int m2), .val (.int m3), .val (.int q), .val (.ref b95), .val (.ref b97), .unset, .unset] [(.int (1 : Int32)), (.int (0 : Int32)), (.ref b97)])) rfl rfl (hb hby at_317) (fun T107 h107 X107 e107 W107 V107 => ?_)
        replace V107 : Arv Z h107 b97 k97 .int (5 : Int32) [(.int (1 : Int32)), (.int (0 : Int32)), (.int (0 : Int32)), (.int (0 : Int32)), (.int (0 : Int32))] (.int (0 : Int32)) := V107
        have N107 := Fr.snoc X107 N105 (Nat.le_trans F98 (Nat.le_of_eq g97.symm))
        refine own_go (fun t k => XS.aload X107.here hx rfl (hb hby at_318) rfl rfl  k) ?_
        show own_Run p e below Φ (T107.setTop (mkF m 320 #[.val (.int p1), .val (.int p2), .val (.int p3), .val (.int p4), .val (.int p5), .val (.int p6), .val (.int (3 : Int32)), .val (.long la), .second, .val (.long lb), .second, .val (.long lc), .second, .val (.long ld), .second, .val (.long lc), .second, .val (.int x0), .val (.int x1), .val (.int x2), .val (.int x3), .val (.int m1), .val (.int m2), .val (.int m3), .val (.int q), .val (.ref b95), .val (.ref b97), .unset, .unset] [(.ref b97)]))
        refine own_go (fun t k => XS.iconst X107.here hx rfl (hb hby at_320) k) ?_
        refine own_go (fun t k => XS.iconst X107.here hx rfl (hb hby at_321) k) ?_
        refine own_iastore X107 hx hZ e107 V107 (j := (1 : Int32)) ⟨by decide, by decide⟩ 1 rfl (Nat.le_of_ble_eq_true rfl) (g := (mkF m 322 #[.val (.int p1), .val (.int p2), .val (.int p3), .val (.int p4), .val (.int p5), .val (.int p6), .val (.int (3 : Int32)), .val (.long la), .second, .val (.long lb), .second, .val (.long lc), .second, .val (.long ld), .second, .val (.long lc), .second, .val (.int x0), .val (.int x1), .val (.int x2), .val (.int x3), .val (.int m1), .val (.int m2), .val (.int m3), .val (.int q), .val (.ref b95), .val (.ref b97), .unset, .unset] [(.int (1 : Int32)), (.int (1 : Int32)), (.ref b97)])) rfl rfl (hb hby at_322) (fun T108 h108 X108 e108 W108 V108 => ?_)
        replace V108 : Arv Z h108 b97 k97 .int (5 : Int32) [(.int (1 : Int32)), (.int (1 : Int32)), (.int (0 : Int32)), (.int (0 : Int32)), (.int (0 : Int32))] (.int (0 : Int32)) := V108
        have N108 := Fr.snoc X108 N107 (Nat.le_trans F98 (Nat.le_of_eq g97.symm))
        refine own_go (fun t k => XS.aload X108.here hx rfl (hb hby at_323) rfl rfl  k) ?_
        refine own_go (fun t k => XS.iconst X108.here hx rfl (hb hby at_325) k) ?_
        show own_Run p e below Φ (T108.setTop (mkF m 326 #[.val (.int p1), .val (.int p2), .val (.int p3), .val (.int p4), .val (.int p5), .val (.int p6), .val (.int (3 : Int32)), .val (.long la), .second, .val (.long lb), .second, .val (.long lc), .second, .val (.long ld), .second, .val (.long lc), .second, .val (.int x0), .val (.int x1), .val (.int x2), .val (.int x3), .val (.int m1), .val (.int m2), .val (.int m3), .val (.int q), .val (.ref b95), .val (.ref b97), .unset, .unset] [(.int (2 : Int32)), (.ref b97)]))
        refine own_go (fun t k => XS.iconst X108.here hx rfl (hb hby at_326) k) ?_
        refine own_iastore X108 hx hZ e108 V108 (j := (2 : Int32)) ⟨by decide, by decide⟩ 2 rfl (Nat.le_of_ble_eq_true rfl) (g := (mkF m 327 #[.val (.int p1), .val (.int p2), .val (.int p3), .val (.int p4), .val (.int p5), .val (.int p6), .val (.int (3 : Int32)), .val (.long la), .second, .val (.long lb), .second, .val (.long lc), .second, .val (.long ld), .second, .val (.long lc), .second, .val (.int x0), .val (.int x1), .val (.int x2), .val (.int x3), .val (.int m1), .val (.int m2), .val (.int m3), .val (.int q), .val (.ref b95), .val (.ref b97), .unset, .unset] [(.int (1 : Int32)), (.int (2 : Int32)), (.ref b97)])) rfl rfl (hb hby at_327) (fun T109 h109 X109 e109 W109 V109 => ?_)
        replace V109 : Arv Z h109 b97 k97 .int (5 : Int32) [(.int (1 : Int32)), (.int (1 : Int32)), (.int (1 : Int32)), (.int (0 : Int32)), (.int (0 : Int32))] (.int (0 : Int32)) := V109
        have N109 := Fr.snoc X109 N108 (Nat.le_trans F98 (Nat.le_of_eq g97.symm))
        refine own_go (fun t k => XS.aload X109.here hx rfl (hb hby at_328) rfl rfl  k) ?_
        refine own_go (fun t k => XS.iconst X109.here hx rfl (hb hby at_330) k) ?_
        refine own_go (fun t k => XS.iconst X109.here hx rfl (hb hby at_331) k) ?_
        show own_Run p e below Φ (T109.setTop (mkF m 332 #[.val (.int p1), .val (.int p2), .val (.int p3), .val (.int p4), .val (.int p5), .val (.int p6), .val (.int (3 : Int32)), .val (.long la), .second, .val (.long lb), .second, .val (.long lc), .second, .val (.long ld), .second, .val (.long lc), .second, .val (.int x0), .val (.int x1), .val (.int x2), .val (.int x3), .val (.int m1), .val (.int m2), .val (.int m3), .val (.int q), .val (.ref b95), .val (.ref b97), .unset, .unset] [(.int (1 : Int32)), (.int (3 : Int32)), (.ref b97)]))
        refine own_iastore X109 hx hZ e109 V109 (j := (3 : Int32)) ⟨by decide, by decide⟩ 3 rfl (Nat.le_of_ble_eq_true rfl) (g := (mkF m 332 #[.val (.int p1), .val (.int p2), .val (.int p3), .val (.int p4), .val (.int p5), .val (.int p6), .val (.int (3 : Int32)), .val (.long la), .second, .val (.long lb), .second, .val (.long lc), .second, .val (.long ld), .second, .val (.long lc), .second, .val (.int x0), .val (.int x1), .val (.int x2), .val (.int x3), .val (.int m1), .val (.int m2), .val (.int m3), .val (.int q), .val (.ref b95), .val (.ref b97), .unset, .unset] [(.int (1 : Int32)), (.int (3 : Int32)), (.ref b97)])) rfl rfl (hb hby at_332) (fun T110 h110 X110 e110 W110 V110 => ?_)
        replace V110 : Arv Z h110 b97 k97 .int (5 : Int32) [(.int (1 : Int32)), (.int (1 : Int32)), (.int (1 : Int32)), (.int (1 : Int32)), (.int (0 : Int32))] (.int (0 : Int32)) := V110
        have N110 := Fr.snoc X110 N109 (Nat.le_trans F98 (Nat.le_of_eq g97.symm))
        refine own_go (fun t k => XS.aload X110.here hx rfl (hb hby at_333) rfl rfl  k) ?_
        refine own_go (fun t k => XS.iconst X110.here hx rfl (hb hby at_335) k) ?_
        refine own_go (fun t k => XS.iconst X110.here hx rfl (hb hby at_336) k) ?_
        refine own_iastore X110 hx hZ e110 V110 (j := (4 : Int32)) ⟨by decide, by decide⟩ 4 rfl (Nat.le_of_ble_eq_true rfl) (g := (mkF m 337 #[.val (.int p1), .val (.int p2), .val (.int p3), .val (.int p4), .val (.int p5), .val (.int p6), .val (.int (3 : Int32)), .val (.long la), .second, .val (.long lb), .second, .val (.long lc), .second, .val (.long ld), .second, .val (.long lc), .second, .val (.int x0), .val (.int x1), .val (.int x2), .val (.int x3), .val (.int m1), .val (.int m2), .val (.int m3), .val (.int q), .val (.ref b95), .val (.ref b97), .unset, .unset] [(.int (1 : Int32)), (.int (4 : Int32)), (.ref b97)])) rfl rfl (hb hby at_337) (fun T111 h111 X111 e111 W111 V111 => ?_)
        replace V111 : Arv Z h111 b97 k97 .int (5 : Int32) [(.int (1 : Int32)), (.int (1 : Int32)), (.int (1 : Int32)), (.int (1 : Int32)), (.int (1 : Int32))] (.int (0 : Int32)) := V111
        have N111 := Fr.snoc X111 N110 (Nat.le_trans F98 (Nat.le_of_eq g97.symm))
        show own_Run p e below Φ (T111.setTop (mkF m 338 #[.val (.int p1), .val (.int p2), .val (.int p3), .val (.int p4), .val (.int p5), .val (.int p6), .val (.int (3 : Int32)), .val (.long la), .second, .val (.long lb), .second, .val (.long lc), .second, .val (.long ld), .second, .val (.long lc), .second, .val (.int x0), .val (.int x1), .val (.int x2), .val (.int x3), .val (.int m1), .val (.int m2), .val (.int m3), .val (.int q), .val (.ref b95), .val (.ref b97), .unset, .unset] []))
        have F113 : n0 ≤ h111.size := (Nat.le_trans (Nat.le_trans (Nat.le_trans (Nat.le_trans (Nat.le_trans (Nat.le_trans (Nat.le_trans (Nat.le_trans (Nat.le_trans (Nat.le_trans (Nat.le_trans F98 E97.1) (Keep.of_wr W101).1) (Keep.of_wr W102).1) (Keep.of_wr W103).1) (Keep.of_wr W104).1) (Keep.of_wr W105).1) (Keep.of_wr W107).1) (Keep.of_wr W108).1) (Keep.of_wr W109).1) (Keep.of_wr W110).1) (Keep.of_wr W111).1)
        have F114 : Arv Z h111 b95 k95 .int (5 : Int32) [(.int x0), (.int x1), (.int x2), (.int q), (.int q)] (.int (0 : Int32)) := (((((V105.other W107 ne_b95_b97).other W108 ne_b95_b97).other W109 ne_b95_b97).other W110 ne_b95_b97).other W111 ne_b95_b97)
        obtain ⟨T112, h112, X112, e112, E112, A112, D112, -, st112⟩ := newO X111 hx hZ hown (hw _ (List.mem_of_getElem? (i := 2) rfl)) (hw _ (List.mem_of_getElem? (i := 3) rfl)) (hw _ (List.mem_of_getElem? (i := 4) rfl)) e111 (g := (mkF m 338 #[.val (.int p1), .val (.int p2), .val (.int p3), .val (.int p4), .val (.int p5), .val (.int p6), .val (.int (3 : Int32)), .val (.long la), .second, .val (.long lb), .second, .val (.long lc), .second, .val (.long ld), .second, .val (.long lc), .second, .val (.int x0), .val (.int x1), .val (.int x2), .val (.int x3), .val (.int m1), .val (.int m2), .val (.int m3), .val (.int q), .val (.ref b95), .val (.ref b97), .unset, .unset] [])) rfl (hb hby at_338) (by decide) (by decide)
        refine own_go st112 ?_
        obtain ⟨b112, g112⟩ : ∃ z, z = h111.size := ⟨_, rfl⟩
        rw [← g112] at A112 D112 ⊢
        have ne_b95_b112 : b95 ≠ b112 := Nat.ne_of_lt (Nat.lt_of_lt_of_le F114.lt (Nat.le_of_eq g112.symm))
        have ne_b97_b112 : b97 ≠ b112 := Nat.ne_of_lt (Nat.lt_of_lt_of_le V111.lt (Nat.le_of_eq g112.symm))
        have G115 : Fld Z h112 b112 "com/example/glossyn/glossyn/index/Postings" "documents" "[I" .null := D112 (Or.inr (hw _ (List.mem_of_getElem? (i := 12) rfl))) (ty := (.array .int)) (by decide)
        have G116 : Fld Z h112 b112 "com/example/glossyn/glossyn/index/Postings" "frequencies" "[I" .null := D112 (Or.inr (hw _ (List.mem_of_getElem? (i := 14) rfl))) (ty := (.array .int)) (by decide)
        have G117 : Fld Z h112 b112 "com/example/glossyn/glossyn/index/Postings" "size" "I" (.int (0 : Int32)) := D112 (Or.inr (hw _ (List.mem_of_getElem? (i := 16) rfl))) (ty := .int) (by decide)
        refine own_go (fun t k => XS.dup X112.here hx rfl (hb hby at_341) rfl rfl k) ?_
        refine own_go (fun t k => XS.aload X112.here hx rfl (hb hby at_342) rfl rfl  k) ?_
        refine own_go (fun t k => XS.aload X112.here hx rfl (hb hby at_344) rfl rfl  k) ?_
        refine own_go (fun t k => XS.iload X112.here hx rfl (hb hby at_346) rfl  k) ?_
        show own_Run p e below Φ (T112.setTop (mkF m 348 #[.val (.int p1), .val (.int p2), .val (.int p3), .val (.int p4), .val (.int p5), .val (.int p6), .val (.int (3 : Int32)), .val (.long la), .second, .val (.long lb), .second, .val (.long lc), .second, .val (.long ld), .second, .val (.long lc), .second, .val (.int x0), .val (.int x1), .val (.int x2), .val (.int x3), .val (.int m1), .val (.int m2), .val (.int m3), .val (.int q), .val (.ref b95), .val (.ref b97), .unset, .unset] [(.int (3 : Int32)), (.ref b97), (.ref b95), (.ref b112), (.ref b112)]))
        refine own_callI X112 hx hZ (y := (⟨"com/example/glossyn/glossyn/index/Postings", "<init>", "([I[II)V"⟩ : MethodName)) (W := 1) (a := b112) (argsL := [(.ref b95), (.ref b97), (.int (3 : Int32))]) (rest := [(.ref b112)]) rfl hown (hw _ (List.mem_of_getElem? (i := 5) rfl)) (hw _ (List.mem_of_getElem? (i := 6) rfl)) (hw _ (List.mem_of_getElem? (i := 7) rfl)) (by decide) (own_bk (rm_ct l Z a0 hw b112 b95 b97 (3 : Int32) h112 n0 A112 G115 G116 G117 (Nat.le_trans F113 (Nat.le_of_eq g112.symm))) hZ (hw _ (List.mem_of_getElem? (i := 7) rfl)) (hw _ (List.mem_of_getElem? (i := 4) rfl)) (by decide) (by decide)) e112 (g := (mkF m 348 #[.val (.int p1), .val (.int p2), .val (.int p3), .val (.int p4), .val (.int p5), .val (.int p6), .val (.int (3 : Int32)), .val (.long la), .second, .val (.long lb), .second, .val (.long lc), .second, .val (.long ld), .second, .val (.long lc), .second, .val (.int x0), .val (.int x1), .val (.int x2), .val (.int x3), .val (.int m1), .val (.int m2), .val (.int m3), .val (.int q), .val (.ref b95), .val (.ref b97), .unset, .unset] [(.int (3 : Int32)), (.ref b97), (.ref b95), (.ref b112), (.ref b112)])) rfl (by rw [hml]; rfl) (lenOf pd_0 rfl) rfl (by show 2 * 0 + _ ≤ _; exact Nat.le_of_eq rfl) (hb hby at_348) (by decide) (by decide) (fun v118 T118 h118 L118 X118 e118 q118 => ?_)
        obtain ⟨rfl, M118, K118, P118_0, P118_1⟩ := q118
        have N118 := Fr.app N111 M118
        refine own_go (fun t k => XS.astore X118.here hx rfl (hb hby at_351) rfl rfl (l' := #[.val (.int p1), .val (.int p2), .val (.int p3), .val (.int p4), .val (.int p5), .val (.int p6), .val (.int (3 : Int32)), .val (.long la), .second, .val (.long lb), .second, .val (.long lc), .second, .val (.long ld), .second, .val (.long lc), .second, .val (.int x0), .val (.int x1), .val (.int x2), .val (.int x3), .val (.int m1), .val (.int m2), .val (.int m3), .val (.int q), .val (.ref b95), .val (.ref b97), .val (.ref b112), .unset]) rfl k) ?_
        show own_Run p e below Φ (T118.setTop (mkF m 353 #[.val (.int p1), .val (.int p2), .val (.int p3), .val (.int p4), .val (.int p5), .val (.int p6), .val (.int (3 : Int32)), .val (.long la), .second, .val (.long lb), .second, .val (.long lc), .second, .val (.long ld), .second, .val (.long lc), .second, .val (.int x0), .val (.int x1), .val (.int x2), .val (.int x3), .val (.int m1), .val (.int m2), .val (.int m3), .val (.int q), .val (.ref b95), .val (.ref b97), .val (.ref b112), .unset] []))
        have J409_119 : ∀ (y : Int32), (own_y3 x0 x1 x2 q = y) → own_Run p e below Φ (T118.setTop (mkF m 409 #[.val (.int p1), .val (.int p2), .val (.int p3), .val (.int p4), .val (.int p5), .val (.int p6), .val (.int (3 : Int32)), .val (.long la), .second, .val (.long lb), .second, .val (.long lc), .second, .val (.long ld), .second, .val (.long lc), .second, .val (.int x0), .val (.int x1), .val (.int x2), .val (.int x3), .val (.int m1), .val (.int m2), .val (.int m3), .val (.int q), .val (.ref b95), .val (.ref b97), .val (.ref b112), .unset] [(.int y)])) := by
          intro y hy
          show own_Run p e below Φ (T118.setTop (mkF m 409 #[.val (.int p1), .val (.int p2), .val (.int p3), .val (.int p4), .val (.int p5), .val (.int p6), .val (.int (3 : Int32)), .val (.long la), .second, .val (.long lb), .second, .val (.long lc), .second, .val (.long ld), .second, .val (.long lc), .second, .val (.int x0), .val (.int x1), .val (.int x2), .val (.int x3), .val (.int m1), .val (.int m2), .val (.int m3), .val (.int q), .val (.ref b95), .val (.ref b97), .val (.ref b112), .unset] [(.int y)]))
          refine own_go (fun t k => XS.istore X118.here hx rfl (hb hby at_409) rfl (l' := #[.val (.int p1), .val (.int p2), .val (.int p3), .val (.int p4), .val (.int p5), .val (.int p6), .val (.int (3 : Int32)), .val (.long la), .second, .val (.long lb), .second, .val (.long lc), .second, .val (.long ld), .second, .val (.long lc), .second, .val (.int x0), .val (.int x1), .val (.int x2), .val (.int x3), .val (.int m1), .val (.int m2), .val (.int m3), .val (.int q), .val (.ref b95), .val (.ref b97), .val (.ref b112), .val (.int y)]) rfl k) ?_
          refine own_go (fun t k => XS.aload X118.here hx rfl (hb hby at_411) rfl rfl  k) ?_
          refine own_go (fun t k => XS.iload X118.here hx rfl (hb hby at_413) rfl  k) ?_
          have F120 : Arv Z h118 b95 k95 .int (5 : Int32) [(.int x0), (.int x1), (.int x2), (.int q), (.int q)] (.int (0 : Int32)) := ((F114.ext E112).keep K118 (ninS ne_b95_b112 nin0))
          have F122 : Exa Z h118 b112 "com/example/glossyn/glossyn/index/Postings" := (A112.keep K118)
          refine own_callV X118 hx hZ (y := (⟨"com/example/glossyn/glossyn/index/Postings", "contains", "(I)Z"⟩ : MethodName)) (z := (⟨"com/example/glossyn/glossyn/index/Postings", "contains", "(I)Z"⟩ : MethodName)) (W := 0) (a := b112) (argsL := [(.int q)]) (rest := []) hown (hw _ (List.mem_of_getElem? (i := 17) rfl)) (hw _ (List.mem_of_getElem? (i := 18) rfl)) (notFace_of_selects (args := #[]) (mvT hZ (hw _ (List.mem_of_getElem? (i := 20) rfl)))) (hw _ (List.mem_of_getElem? (i := 20) rfl)) (hw _ (List.mem_of_getElem? (i := 19) rfl)) (by decide) (own_bk (rm_cn3 l Z a0 hw b112 q b95 k95 x0 x1 x2 q q h118 n0 P118_0 P118_1 F120 (by omega) (by omega)) hZ (hw _ (List.mem_of_getElem? (i := 21) rfl)) (hw _ (List.mem_of_getElem? (i := 4) rfl)) (by decide) (by decide)) e118 F122 (g := (mkF m 415 #[.val (.int p1), .val (.int p2), .val (.int p3), .val (.int p4), .val (.int p5), .val (.int p6), .val (.int (3 : Int32)), .val (.long la), .second, .val (.long lb), .second, .val (.long lc), .second, .val (.long ld), .second, .val (.long lc), .second, .val (.int x0), .val (.int x1), .val (.int x2), .val (.int x3), .val (.int m1), .val (.int m2), .val (.int m3), .val (.int q), .val (.ref b95), .val (.ref b97), .val (.ref b112), .val (.int y)] [(.int q), (.ref b112)])) rfl (by rw [hml]; rfl) (lenOf pd_2 rfl) rfl (by show 2 * 0 + _ ≤ _; exact Nat.le_of_eq rfl) (hb hby at_415) (by decide) (by decide) (fun v121 T121 h121 L121 X121 e121 q121 => ?_)
          obtain ⟨rfl, M121, s121⟩ := q121
          replace e121 : T121.heap = h118 := e121.trans s121
          have N121 := Fr.app N118 M121
          refine own_go (fun t k => XS.iload X121.here hx rfl (hb hby at_418) rfl  k) ?_
          show own_Run p e below Φ (T121.setTop (mkF m 420 #[.val (.int p1), .val (.int p2), .val (.int p3), .val (.int p4), .val (.int p5), .val (.int p6), .val (.int (3 : Int32)), .val (.long la), .second, .val (.long lb), .second, .val (.long lc), .second, .val (.long ld), .second, .val (.long lc), .second, .val (.int x0), .val (.int x1), .val (.int x2), .val (.int x3), .val (.int m1), .val (.int m2), .val (.int m3), .val (.int q), .val (.ref b95), .val (.ref b97), .val (.ref b112), .val (.int y)] [(.int y), (.int (own_y3 x0 x1 x2 q))]))
          have hc420 : (own_y3 x0 x1 x2 q) = y := hy
          refine own_go (fun t k => XS.icmpNo X121.here hx rfl (hb hby at_420) rfl (teq hc420).2 k) ?_
          refine own_go (fun t k => XS.iconst X121.here hx rfl (hb hby at_423) k) ?_
          refine own_go (fun t k => XS.goto X121.here hx rfl (pc0 := 424) (pc' := 428) rfl (hb hby at_424) (by decide) (by decide) k) ?_
          subst hΦ
          exact own_retN X121 hx (t := .boolean) Bd.returns (by simp) hlk (hb hby at_428) e121 ⟨rfl, N121⟩ (by decide) (by decide)
        show own_Run p e below Φ (T118.setTop (mkF m 353 #[.val (.int p1), .val (.int p2), .val (.int p3), .val (.int p4), .val (.int p5), .val (.int p6), .val (.int (3 : Int32)), .val (.long la), .second, .val (.long lb), .second, .val (.long lc), .second, .val (.long ld), .second, .val (.long lc), .second, .val (.int x0), .val (.int x1), .val (.int x2), .val (.int x3), .val (.int m1), .val (.int m2), .val (.int m3), .val (.int q), .val (.ref b95), .val (.ref b97), .val (.ref b112), .unset] []))
        refine own_go (fun t k => XS.iload X118.here hx rfl (hb hby at_353) rfl  k) ?_
        refine own_go (fun t k => XS.ifNo X118.here hx rfl (hb hby at_355) rfl ((if0 _ _).trans (tlt (by decide : (0 : Int32) < (3 : Int32))).2.2.2) k) ?_
        show own_Run p e below Φ (T118.setTop (mkF m 358 #[.val (.int p1), .val (.int p2), .val (.int p3), .val (.int p4), .val (.int p5), .val (.int p6), .val (.int (3 : Int32)), .val (.long la), .second, .val (.long lb), .second, .val (.long lc), .second, .val (.long ld), .second, .val (.long lc), .second, .val (.int x0), .val (.int x1), .val (.int x2), .val (.int x3), .val (.int m1), .val (.int m2), .val (.int m3), .val (.int q), .val (.ref b95), .val (.ref b97), .val (.ref b112), .unset] []))
        refine own_go (fun t k => XS.iload X118.here hx rfl (hb hby at_358) rfl  k) ?_
        refine own_go (fun t k => XS.iload X118.here hx rfl (hb hby at_360) rfl  k) ?_
        by_cases hc362 : q = x0
        · refine own_go (fun t k => XS.icmpYes X118.here hx rfl (pc0 := 362) (pc' := 404) rfl (hb hby at_362) rfl (teq hc362).1 (by decide) (by decide) k) ?_
          refine own_go (fun t k => XS.iconst X118.here hx rfl (hb hby at_404) k) ?_
          refine own_go (fun t k => XS.goto X118.here hx rfl (pc0 := 405) (pc' := 409) rfl (hb hby at_405) (by decide) (by decide) k) ?_
          exact J409_119 (1 : Int32) (by unfold own_y3; rw [if_pos hc362])
        · refine own_go (fun t k => XS.icmpNo X118.here hx rfl (hb hby at_362) rfl (feq hc362).1 k) ?_
          show own_Run p e below Φ (T118.setTop (mkF m 365 #[.val (.int p1), .val (.int p2), .val (.int p3), .val (.int p4), .val (.int p5), .val (.int p6), .val (.int (3 : Int32)), .val (.long la), .second, .val (.long lb), .second, .val (.long lc), .second, .val (.long ld), .second, .val (.long lc), .second, .val (.int x0), .val (.int x1), .val (.int x2), .val (.int x3), .val (.int m1), .val (.int m2), .val (.int m3), .val (.int q), .val (.ref b95), .val (.ref b97), .val (.ref b112), .unset] []))
          refine own_go (fun t k => XS.iload X118.here hx rfl (hb hby at_365) rfl  k) ?_
          refine own_go (fun t k => XS.iconst X118.here hx rfl (hb hby at_367) k) ?_
          refine own_go (fun t k => XS.icmpNo X118.here hx rfl (hb hby at_368) rfl (tlt (by decide : (1 : Int32) < (3 : Int32))).2.2.2 k) ?_
          refine own_go (fun t k => XS.iload X118.here hx rfl (hb hby at_371) rfl  k) ?_
          refine own_go (fun t k => XS.iload X118.here hx rfl (hb hby at_373) rfl  k) ?_
          show own_Run p e below Φ (T118.setTop (mkF m 375 #[.val (.int p1), .val (.int p2), .val (.int p3), .val (.int p4), .val (.int p5), .val (.int p6), .val (.int (3 : Int32)), .val (.long la), .second, .val (.long lb), .second, .val (.long lc), .second, .val (.long ld), .second, .val (.long lc), .second, .val (.int x0), .val (.int x1), .val (.int x2), .val (.int x3), .val (.int m1), .val (.int m2), .val (.int m3), .val (.int q), .val (.ref b95), .val (.ref b97), .val (.ref b112), .unset] [(.int x1), (.int q)]))
          by_cases hc375 : q = x1
          · refine own_go (fun t k => XS.icmpYes X118.here hx rfl (pc0 := 375) (pc' := 404) rfl (hb hby at_375) rfl (teq hc375).1 (by decide) (by decide) k) ?_
            refine own_go (fun t k => XS.iconst X118.here hx rfl (hb hby at_404) k) ?_
            refine own_go (fun t k => XS.goto X118.here hx rfl (pc0 := 405) (pc' := 409) rfl (hb hby at_405) (by decide) (by decide) k) ?_
            exact J409_119 (1 : Int32) (by unfold own_y3; rw [if_neg hc362, if_pos hc375])
          · refine own_go (fun t k => XS.icmpNo X118.here hx rfl (hb hby at_375) rfl (feq hc375).1 k) ?_
            refine own_go (fun t k => XS.iload X118.here hx rfl (hb hby at_378) rfl  k) ?_
            refine own_go (fun t k => XS.iconst X118.here hx rfl (hb hby at_380) k) ?_
            show own_Run p e below Φ (T118.setTop (mkF m 381 #[.val (.int p1), .val (.int p2), .val (.int p3), .val (.int p4), .val (.int p5), .val (.int p6), .val (.int (3 : Int32)), .val (.long la), .second, .val (.long lb), .second, .val (.long lc), .second, .val (.long ld), .second, .val (.long lc), .second, .val (.int x0), .val (.int x1), .val (.int x2), .val (.int x3), .val (.int m1), .val (.int m2), .val (.int m3), .val (.int q), .val (.ref b95), .val (.ref b97), .val (.ref b112), .unset] [(.int (2 : Int32)), (.int (3 : Int32))]))
            refine own_go (fun t k => XS.icmpNo X118.here hx rfl (hb hby at_381) rfl (tlt (by decide : (2 : Int32) < (3 : Int32))).2.2.2 k) ?_
            refine own_go (fun t k => XS.iload X118.here hx rfl (hb hby at_384) rfl  k) ?_
            refine own_go (fun t k => XS.iload X118.here hx rfl (hb hby at_386) rfl  k) ?_
            by_cases hc388 : q = x2
            · refine own_go (fun t k => XS.icmpYes X118.here hx rfl (pc0 := 388) (pc' := 404) rfl (hb hby at_388) rfl (teq hc388).1 (by decide) (by decide) k) ?_
              refine own_go (fun t k => XS.iconst X118.here hx rfl (hb hby at_404) k) ?_
              show own_Run p e below Φ (T118.setTop (mkF m 405 #[.val (.int p1), .val (.int p2), .val (.int p3), .val (.int p4), .val (.int p5), .val (.int p6), .val (.int (3 : Int32)), .val (.long la), .second, .val (.long lb), .second, .val (.long lc), .second, .val (.long ld), .second, .val (.long lc), .second, .val (.int x0), .val (.int x1), .val (.int x2), .val (.int x3), .val (.int m1), .val (.int m2), .val (.int m3), .val (.int q), .val (.ref b95), .val (.ref b97), .val (.ref b112), .unset] [(.int (1 : Int32))]))
              refine own_go (fun t k => XS.goto X118.here hx rfl (pc0 := 405) (pc' := 409) rfl (hb hby at_405) (by decide) (by decide) k) ?_
              exact J409_119 (1 : Int32) (by unfold own_y3; rw [if_neg hc362, if_neg hc375, if_pos hc388])
            · refine own_go (fun t k => XS.icmpNo X118.here hx rfl (hb hby at_388) rfl (feq hc388).1 k) ?_
              refine own_go (fun t k => XS.iload X118.here hx rfl (hb hby at_391) rfl  k) ?_
              refine own_go (fun t k => XS.iconst X118.here hx rfl (hb hby at_393) k) ?_
              refine own_go (fun t k => XS.icmpYes X118.here hx rfl (pc0 := 394) (pc' := 408) rfl (hb hby at_394) rfl (flt (by decide : ¬ ((3 : Int32) < (3 : Int32)))).2.2.2 (by decide) (by decide) k) ?_
              refine own_go (fun t k => XS.iconst X118.here hx rfl (hb hby at_408) k) ?_
              exact J409_119 (0 : Int32) (by unfold own_y3; rw [if_neg hc362, if_neg hc375, if_neg hc388])
      show own_Run p e below Φ (s₁.setTop (mkF m 112 #[.val (.int p1), .val (.int p2), .val (.int p3), .val (.int p4), .val (.int p5), .val (.int p6), .val (.int (3 : Int32)), .val (.long la), .second, .val (.long lb), .second, .val (.long lc), .second, .val (.long ld), .second, .val (.long lc), .second, .val (.int x0), .val (.int x1), .val (.int x2), .val (.int x3), .unset, .unset, .unset, .unset, .unset, .unset, .unset, .unset] []))
      refine own_go (fun t k => XS.iload X0.here hx rfl (hb hby at_112) rfl  k) ?_
      show own_Run p e below Φ (s₁.setTop (mkF m 114 #[.val (.int p1), .val (.int p2), .val (.int p3), .val (.int p4), .val (.int p5), .val (.int p6), .val (.int (3 : Int32)), .val (.long la), .second, .val (.long lb), .second, .val (.long lc), .second, .val (.long ld), .second, .val (.long lc), .second, .val (.int x0), .val (.int x1), .val (.int x2), .val (.int x3), .unset, .unset, .unset, .unset, .unset, .unset, .unset, .unset] [(.int p5)]))
      refine own_go (fun t k => XS.bipush X0.here hx rfl (hb hby at_114) k) ?_
      refine own_go (fun t k => XS.iushr X0.here hx rfl (hb hby at_116) rfl k) ?_
      refine own_go (fun t k => XS.iconst X0.here hx rfl (hb hby at_117) k) ?_
      refine own_go (fun t k => XS.iand X0.here hx rfl (hb hby at_118) rfl k) ?_
      refine own_go (fun t k => XS.istore X0.here hx rfl (hb hby at_119) rfl (l' := #[.val (.int p1), .val (.int p2), .val (.int p3), .val (.int p4), .val (.int p5), .val (.int p6), .val (.int (3 : Int32)), .val (.long la), .second, .val (.long lb), .second, .val (.long lc), .second, .val (.long ld), .second, .val (.long lc), .second, .val (.int x0), .val (.int x1), .val (.int x2), .val (.int x3), .val (.int (((p5.toUInt32 >>> ((11 : Int32) &&& 31).toUInt32).toInt32) &&& (3 : Int32))), .unset, .unset, .unset, .unset, .unset, .unset, .unset]) rfl k) ?_
      show own_Run p e below Φ (s₁.setTop (mkF m 121 #[.val (.int p1), .val (.int p2), .val (.int p3), .val (.int p4), .val (.int p5), .val (.int p6), .val (.int (3 : Int32)), .val (.long la), .second, .val (.long lb), .second, .val (.long lc), .second, .val (.long ld), .second, .val (.long lc), .second, .val (.int x0), .val (.int x1), .val (.int x2), .val (.int x3), .val (.int (((p5.toUInt32 >>> ((11 : Int32) &&& 31).toUInt32).toInt32) &&& (3 : Int32))), .unset, .unset, .unset, .unset, .unset, .unset, .unset] []))
      have J141_123 : ∀ (kk : Int32), own_Run p e below Φ (s₁.setTop (mkF m 141 #[.val (.int p1), .val (.int p2), .val (.int p3), .val (.int p4), .val (.int p5), .val (.int p6), .val (.int (3 : Int32)), .val (.long la), .second, .val (.long lb), .second, .val (.long lc), .second, .val (.long ld), .second, .val (.long lc), .second, .val (.int x0), .val (.int x1), .val (.int x2), .val (.int x3), .val (.int (((p5.toUInt32 >>> ((11 : Int32) &&& 31).toUInt32).toInt32) &&& (3 : Int32))), .unset, .unset, .unset, .unset, .unset, .unset, .unset] [(.int kk)])) := by
        intro kk
        show own_Run p e below Φ (s₁.setTop (mkF m 141 #[.val (.int p1), .val (.int p2), .val (.int p3), .val (.int p4), .val (.int p5), .val (.int p6), .val (.int (3 : Int32)), .val (.long la), .second, .val (.long lb), .second, .val (.long lc), .second, .val (.long ld), .second, .val (.long lc), .second, .val (.int x0), .val (.int x1), .val (.int x2), .val (.int x3), .val (.int (((p5.toUInt32 >>> ((11 : Int32) &&& 31).toUInt32).toInt32) &&& (3 : Int32))), .unset, .unset, .unset, .unset, .unset, .unset, .unset] [(.int kk)]))
        refine own_go (fun t k => XS.istore X0.here hx rfl (hb hby at_141) rfl (l' := #[.val (.int p1), .val (.int p2), .val (.int p3), .val (.int p4), .val (.int p5), .val (.int p6), .val (.int (3 : Int32)), .val (.long la), .second, .val (.long lb), .second, .val (.long lc), .second, .val (.long ld), .second, .val (.long lc), .second, .val (.int x0), .val (.int x1), .val (.int x2), .val (.int x3), .val (.int (((p5.toUInt32 >>> ((11 : Int32) &&& 31).toUInt32).toInt32) &&& (3 : Int32))), .val (.int kk), .unset, .unset, .unset, .unset, .unset, .unset]) rfl k) ?_
        show own_Run p e below Φ (s₁.setTop (mkF m 143 #[.val (.int p1), .val (.int p2), .val (.int p3), .val (.int p4), .val (.int p5), .val (.int p6), .val (.int (3 : Int32)), .val (.long la), .second, .val (.long lb), .second, .val (.long lc), .second, .val (.long ld), .second, .val (.long lc), .second, .val (.int x0), .val (.int x1), .val (.int x2), .val (.int x3), .val (.int (((p5.toUInt32 >>> ((11 : Int32) &&& 31).toUInt32).toInt32) &&& (3 : Int32))), .val (.int kk), .unset, .unset, .unset, .unset, .unset, .unset] []))
        have J177_124 : ∀ (pk : Int32), own_Run p e below Φ (s₁.setTop (mkF m 177 #[.val (.int p1), .val (.int p2), .val (.int p3), .val (.int p4), .val (.int p5), .val (.int p6), .val (.int (3 : Int32)), .val (.long la), .second, .val (.long lb), .second, .val (.long lc), .second, .val (.long ld), .second, .val (.long lc), .second, .val (.int x0), .val (.int x1), .val (.int x2), .val (.int x3), .val (.int (((p5.toUInt32 >>> ((11 : Int32) &&& 31).toUInt32).toInt32) &&& (3 : Int32))), .val (.int kk), .unset, .unset, .unset, .unset, .unset, .unset] [(.int pk)])) := by
          intro pk
          show own_Run p e below Φ (s₁.setTop (mkF m 177 #[.val (.int p1), .val (.int p2), .val (.int p3), .val (.int p4), .val (.int p5), .val (.int p6), .val (.int (3 : Int32)), .val (.long la), .second, .val (.long lb), .second, .val (.long lc), .second, .val (.long ld), .second, .val (.long lc), .second, .val (.int x0), .val (.int x1), .val (.int x2), .val (.int x3), .val (.int (((p5.toUInt32 >>> ((11 : Int32) &&& 31).toUInt32).toInt32) &&& (3 : Int32))), .val (.int kk), .unset, .unset, .unset, .unset, .unset, .unset] [(.int pk)]))
          refine own_go (fun t k => XS.istore X0.here hx rfl (hb hby at_177) rfl (l' := #[.val (.int p1), .val (.int p2), .val (.int p3), .val (.int p4), .val (.int p5), .val (.int p6), .val (.int (3 : Int32)), .val (.long la), .second, .val (.long lb), .second, .val (.long lc), .second, .val (.long ld), .second, .val (.long lc), .second, .val (.int x0), .val (.int x1), .val (.int x2), .val (.int x3), .val (.int (((p5.toUInt32 >>> ((11 : Int32) &&& 31).toUInt32).toInt32) &&& (3 : Int32))), .val (.int kk), .val (.int pk), .unset, .unset, .unset, .unset, .unset]) rfl k) ?_
          refine own_go (fun t k => XS.iload X0.here hx rfl (hb hby at_179) rfl  k) ?_
          refine own_go (fun t k => XS.ifNo X0.here hx rfl (hb hby at_181) rfl ((if0 _ _).trans (feq (by decide : ¬ ((3 : Int32) = (0 : Int32)))).1) k) ?_
          refine own_go (fun t k => XS.iload X0.here hx rfl (hb hby at_184) rfl  k) ?_
          by_cases hc186 : (((p5.toUInt32 >>> ((11 : Int32) &&& 31).toUInt32).toInt32) &&& (3 : Int32)) = (0 : Int32)
          · refine own_go (fun t k => XS.ifNo X0.here hx rfl (hb hby at_186) rfl ((if0 _ _).trans (teq hc186).2) k) ?_
            show own_Run p e below Φ (s₁.setTop (mkF m 189 #[.val (.int p1), .val (.int p2), .val (.int p3), .val (.int p4), .val (.int p5), .val (.int p6), .val (.int (3 : Int32)), .val (.long la), .second, .val (.long lb), .second, .val (.long lc), .second, .val (.long ld), .second, .val (.long lc), .second, .val (.int x0), .val (.int x1), .val (.int x2), .val (.int x3), .val (.int (((p5.toUInt32 >>> ((11 : Int32) &&& 31).toUInt32).toInt32) &&& (3 : Int32))), .val (.int kk), .val (.int pk), .unset, .unset, .unset, .unset, .unset] []))
            refine own_go (fun t k => XS.iload X0.here hx rfl (hb hby at_189) rfl  k) ?_
            refine own_go (fun t k => XS.istore X0.here hx rfl (hb hby at_191) rfl (l' := #[.val (.int p1), .val (.int p2), .val (.int p3), .val (.int p4), .val (.int p5), .val (.int p6), .val (.int (3 : Int32)), .val (.long la), .second, .val (.long lb), .second, .val (.long lc), .second, .val (.long ld), .second, .val (.long lc), .second, .val (.int x0), .val (.int x1), .val (.int x2), .val (.int x3), .val (.int (((p5.toUInt32 >>> ((11 : Int32) &&& 31).toUInt32).toInt32) &&& (3 : Int32))), .val (.int kk), .val (.int pk), .val (.int p6), .unset, .unset, .unset, .unset]) rfl k) ?_
            refine own_go (fun t k => XS.goto X0.here hx rfl (pc0 := 193) (pc' := 230) rfl (hb hby at_193) (by decide) (by decide) k) ?_
            exact J230_94 p6 (((p5.toUInt32 >>> ((11 : Int32) &&& 31).toUInt32).toInt32) &&& (3 : Int32)) kk pk
          · refine own_go (fun t k => XS.ifYes X0.here hx rfl (pc0 := 186) (pc' := 196) rfl (hb hby at_186) rfl ((if0 _ _).trans (feq hc186).2) (by decide) (by decide) k) ?_
            refine own_go (fun t k => XS.iload X0.here hx rfl (hb hby at_196) rfl  k) ?_
            refine own_go (fun t k => XS.iconst X0.here hx rfl (hb hby at_198) k) ?_
            show own_Run p e below Φ (s₁.setTop (mkF m 199 #[.val (.int p1), .val (.int p2), .val (.int p3), .val (.int p4), .val (.int p5), .val (.int p6), .val (.int (3 : Int32)), .val (.long la), .second, .val (.long lb), .second, .val (.long lc), .second, .val (.long ld), .second, .val (.long lc), .second, .val (.int x0), .val (.int x1), .val (.int x2), .val (.int x3), .val (.int (((p5.toUInt32 >>> ((11 : Int32) &&& 31).toUInt32).toInt32) &&& (3 : Int32))), .val (.int kk), .val (.int pk), .unset, .unset, .unset, .unset, .unset] [(.int (1 : Int32)), (.int (((p5.toUInt32 >>> ((11 : Int32) &&& 31).toUInt32).toInt32) &&& (3 : Int32)))]))
            by_cases hc199 : (((p5.toUInt32 >>> ((11 : Int32) &&& 31).toUInt32).toInt32) &&& (3 : Int32)) = (1 : Int32)
            · refine own_go (fun t k => XS.icmpNo X0.here hx rfl (hb hby at_199) rfl (teq hc199).2 k) ?_
              refine own_go (fun t k => XS.iload X0.here hx rfl (hb hby at_202) rfl  k) ?_
              refine own_go (fun t k => XS.istore X0.here hx rfl (hb hby at_204) rfl (l' := #[.val (.int p1), .val (.int p2), .val (.int p3), .val (.int p4), .val (.int p5), .val (.int p6), .val (.int (3 : Int32)), .val (.long la), .second, .val (.long lb), .second, .val (.long lc), .second, .val (.long ld), .second, .val (.long lc), .second, .val (.int x0), .val (.int x1), .val (.int x2), .val (.int x3), .val (.int (((p5.toUInt32 >>> ((11 : Int32) &&& 31).toUInt32).toInt32) &&& (3 : Int32))), .val (.int kk), .val (.int pk), .val (.int pk), .unset, .unset, .unset, .unset]) rfl k) ?_
              refine own_go (fun t k => XS.goto X0.here hx rfl (pc0 := 206) (pc' := 230) rfl (hb hby at_206) (by decide) (by decide) k) ?_
              exact J230_94 pk (((p5.toUInt32 >>> ((11 : Int32) &&& 31).toUInt32).toInt32) &&& (3 : Int32)) kk pk
            · refine own_go (fun t k => XS.icmpYes X0.here hx rfl (pc0 := 199) (pc' := 209) rfl (hb hby at_199) rfl (feq hc199).2 (by decide) (by decide) k) ?_
              refine own_go (fun t k => XS.iload X0.here hx rfl (hb hby at_209) rfl  k) ?_
              show own_Run p e below Φ (s₁.setTop (mkF m 211 #[.val (.int p1), .val (.int p2), .val (.int p3), .val (.int p4), .val (.int p5), .val (.int p6), .val (.int (3 : Int32)), .val (.long la), .second, .val (.long lb), .second, .val (.long lc), .second, .val (.long ld), .second, .val (.long lc), .second, .val (.int x0), .val (.int x1), .val (.int x2), .val (.int x3), .val (.int (((p5.toUInt32 >>> ((11 : Int32) &&& 31).toUInt32).toInt32) &&& (3 : Int32))), .val (.int kk), .val (.int pk), .unset, .unset, .unset, .unset, .unset] [(.int (((p5.toUInt32 >>> ((11 : Int32) &&& 31).toUInt32).toInt32) &&& (3 : Int32)))]))
              refine own_go (fun t k => XS.iconst X0.here hx rfl (hb hby at_211) k) ?_
              by_cases hc212 : (((p5.toUInt32 >>> ((11 : Int32) &&& 31).toUInt32).toInt32) &&& (3 : Int32)) = (2 : Int32)
              · refine own_go (fun t k => XS.icmpNo X0.here hx rfl (hb hby at_212) rfl (teq hc212).2 k) ?_
                refine own_go (fun t k => XS.iload X0.here hx rfl (hb hby at_215) rfl  k) ?_
                refine own_go (fun t k => XS.iconst X0.here hx rfl (hb hby at_217) k) ?_
                refine own_go (fun t k => XS.iadd X0.here hx rfl (hb hby at_218) rfl k) ?_
                show own_Run p e below Φ (s₁.setTop (mkF m 219 #[.val (.int p1), .val (.int p2), .val (.int p3), .val (.int p4), .val (.int p5), .val (.int p6), .val (.int (3 : Int32)), .val (.long la), .second, .val (.long lb), .second, .val (.long lc), .second, .val (.long ld), .second, .val (.long lc), .second, .val (.int x0), .val (.int x1), .val (.int x2), .val (.int x3), .val (.int (((p5.toUInt32 >>> ((11 : Int32) &&& 31).toUInt32).toInt32) &&& (3 : Int32))), .val (.int kk), .val (.int pk), .unset, .unset, .unset, .unset, .unset] [(.int (pk + (1 : Int32)))]))
                refine own_go (fun t k => XS.istore X0.here hx rfl (hb hby at_219) rfl (l' := #[.val (.int p1), .val (.int p2), .val (.int p3), .val (.int p4), .val (.int p5), .val (.int p6), .val (.int (3 : Int32)), .val (.long la), .second, .val (.long lb), .second, .val (.long lc), .second, .val (.long ld), .second, .val (.long lc), .second, .val (.int x0), .val (.int x1), .val (.int x2), .val (.int x3), .val (.int (((p5.toUInt32 >>> ((11 : Int32) &&& 31).toUInt32).toInt32) &&& (3 : Int32))), .val (.int kk), .val (.int pk), .val (.int (pk + (1 : Int32))), .unset, .unset, .unset, .unset]) rfl k) ?_
                refine own_go (fun t k => XS.goto X0.here hx rfl (pc0 := 221) (pc' := 230) rfl (hb hby at_221) (by decide) (by decide) k) ?_
                exact J230_94 (pk + (1 : Int32)) (((p5.toUInt32 >>> ((11 : Int32) &&& 31).toUInt32).toInt32) &&& (3 : Int32)) kk pk
              · refine own_go (fun t k => XS.icmpYes X0.here hx rfl (pc0 := 212) (pc' := 224) rfl (hb hby at_212) rfl (feq hc212).2 (by decide) (by decide) k) ?_
                refine own_go (fun t k => XS.iload X0.here hx rfl (hb hby at_224) rfl  k) ?_
                refine own_go (fun t k => XS.iconst X0.here hx rfl (hb hby at_226) k) ?_
                refine own_go (fun t k => XS.isub X0.here hx rfl (hb hby at_227) rfl k) ?_
                show own_Run p e below Φ (s₁.setTop (mkF m 228 #[.val (.int p1), .val (.int p2), .val (.int p3), .val (.int p4), .val (.int p5), .val (.int p6), .val (.int (3 : Int32)), .val (.long la), .second, .val (.long lb), .second, .val (.long lc), .second, .val (.long ld), .second, .val (.long lc), .second, .val (.int x0), .val (.int x1), .val (.int x2), .val (.int x3), .val (.int (((p5.toUInt32 >>> ((11 : Int32) &&& 31).toUInt32).toInt32) &&& (3 : Int32))), .val (.int kk), .val (.int pk), .unset, .unset, .unset, .unset, .unset] [(.int (pk - (1 : Int32)))]))
                refine own_go (fun t k => XS.istore X0.here hx rfl (hb hby at_228) rfl (l' := #[.val (.int p1), .val (.int p2), .val (.int p3), .val (.int p4), .val (.int p5), .val (.int p6), .val (.int (3 : Int32)), .val (.long la), .second, .val (.long lb), .second, .val (.long lc), .second, .val (.long ld), .second, .val (.long lc), .second, .val (.int x0), .val (.int x1), .val (.int x2), .val (.int x3), .val (.int (((p5.toUInt32 >>> ((11 : Int32) &&& 31).toUInt32).toInt32) &&& (3 : Int32))), .val (.int kk), .val (.int pk), .val (.int (pk - (1 : Int32))), .unset, .unset, .unset, .unset]) rfl k) ?_
                exact J230_94 (pk - (1 : Int32)) (((p5.toUInt32 >>> ((11 : Int32) &&& 31).toUInt32).toInt32) &&& (3 : Int32)) kk pk
        show own_Run p e below Φ (s₁.setTop (mkF m 143 #[.val (.int p1), .val (.int p2), .val (.int p3), .val (.int p4), .val (.int p5), .val (.int p6), .val (.int (3 : Int32)), .val (.long la), .second, .val (.long lb), .second, .val (.long lc), .second, .val (.long ld), .second, .val (.long lc), .second, .val (.int x0), .val (.int x1), .val (.int x2), .val (.int x3), .val (.int (((p5.toUInt32 >>> ((11 : Int32) &&& 31).toUInt32).toInt32) &&& (3 : Int32))), .val (.int kk), .unset, .unset, .unset, .unset, .unset, .unset] []))
        refine own_go (fun t k => XS.iload X0.here hx rfl (hb hby at_143) rfl  k) ?_
        by_cases hc145 : kk = (0 : Int32)
        · refine own_go (fun t k => XS.ifNo X0.here hx rfl (hb hby at_145) rfl ((if0 _ _).trans (teq hc145).2) k) ?_
          refine own_go (fun t k => XS.iload X0.here hx rfl (hb hby at_148) rfl  k) ?_
          refine own_go (fun t k => XS.goto X0.here hx rfl (pc0 := 150) (pc' := 177) rfl (hb hby at_150) (by decide) (by decide) k) ?_
          exact J177_124 x0
        · refine own_go (fun t k => XS.ifYes X0.here hx rfl (pc0 := 145) (pc' := 153) rfl (hb hby at_145) rfl ((if0 _ _).trans (feq hc145).2) (by decide) (by decide) k) ?_
          refine own_go (fun t k => XS.iload X0.here hx rfl (hb hby at_153) rfl  k) ?_
          show own_Run p e below Φ (s₁.setTop (mkF m 155 #[.val (.int p1), .val (.int p2), .val (.int p3), .val (.int p4), .val (.int p5), .val (.int p6), .val (.int (3 : Int32)), .val (.long la), .second, .val (.long lb), .second, .val (.long lc), .second, .val (.long ld), .second, .val (.long lc), .second, .val (.int x0), .val (.int x1), .val (.int x2), .val (.int x3), .val (.int (((p5.toUInt32 >>> ((11 : Int32) &&& 31).toUInt32).toInt32) &&& (3 : Int32))), .val (.int kk), .unset, .unset, .unset, .unset, .unset, .unset] [(.int kk)]))
          refine own_go (fun t k => XS.iconst X0.here hx rfl (hb hby at_155) k) ?_
          by_cases hc156 : kk = (1 : Int32)
          · refine own_go (fun t k => XS.icmpNo X0.here hx rfl (hb hby at_156) rfl (teq hc156).2 k) ?_
            refine own_go (fun t k => XS.iload X0.here hx rfl (hb hby at_159) rfl  k) ?_
            refine own_go (fun t k => XS.goto X0.here hx rfl (pc0 := 161) (pc' := 177) rfl (hb hby at_161) (by decide) (by decide) k) ?_
            exact J177_124 x1
          · refine own_go (fun t k => XS.icmpYes X0.here hx rfl (pc0 := 156) (pc' := 164) rfl (hb hby at_156) rfl (feq hc156).2 (by decide) (by decide) k) ?_
            refine own_go (fun t k => XS.iload X0.here hx rfl (hb hby at_164) rfl  k) ?_
            show own_Run p e below Φ (s₁.setTop (mkF m 166 #[.val (.int p1), .val (.int p2), .val (.int p3), .val (.int p4), .val (.int p5), .val (.int p6), .val (.int (3 : Int32)), .val (.long la), .second, .val (.long lb), .second, .val (.long lc), .second, .val (.long ld), .second, .val (.long lc), .second, .val (.int x0), .val (.int x1), .val (.int x2), .val (.int x3), .val (.int (((p5.toUInt32 >>> ((11 : Int32) &&& 31).toUInt32).toInt32) &&& (3 : Int32))), .val (.int kk), .unset, .unset, .unset, .unset, .unset, .unset] [(.int kk)]))
            refine own_go (fun t k => XS.iconst X0.here hx rfl (hb hby at_166) k) ?_
            by_cases hc167 : kk = (2 : Int32)
            · refine own_go (fun t k => XS.icmpNo X0.here hx rfl (hb hby at_167) rfl (teq hc167).2 k) ?_
              refine own_go (fun t k => XS.iload X0.here hx rfl (hb hby at_170) rfl  k) ?_
              refine own_go (fun t k => XS.goto X0.here hx rfl (pc0 := 172) (pc' := 177) rfl (hb hby at_172) (by decide) (by decide) k) ?_
              exact J177_124 x2
            · refine own_go (fun t k => XS.icmpYes X0.here hx rfl (pc0 := 167) (pc' := 175) rfl (hb hby at_167) rfl (feq hc167).2 (by decide) (by decide) k) ?_
              refine own_go (fun t k => XS.iload X0.here hx rfl (hb hby at_175) rfl  k) ?_
              exact J177_124 x3
      show own_Run p e below Φ (s₁.setTop (mkF m 121 #[.val (.int p1), .val (.int p2), .val (.int p3), .val (.int p4), .val (.int p5), .val (.int p6), .val (.int (3 : Int32)), .val (.long la), .second, .val (.long lb), .second, .val (.long lc), .second, .val (.long ld), .second, .val (.long lc), .second, .val (.int x0), .val (.int x1), .val (.int x2), .val (.int x3), .val (.int (((p5.toUInt32 >>> ((11 : Int32) &&& 31).toUInt32).toInt32) &&& (3 : Int32))), .unset, .unset, .unset, .unset, .unset, .unset, .unset] []))
      refine own_go (fun t k => XS.iload X0.here hx rfl (hb hby at_121) rfl  k) ?_
      show own_Run p e below Φ (s₁.setTop (mkF m 123 #[.val (.int p1), .val (.int p2), .val (.int p3), .val (.int p4), .val (.int p5), .val (.int p6), .val (.int (3 : Int32)), .val (.long la), .second, .val (.long lb), .second, .val (.long lc), .second, .val (.long ld), .second, .val (.long lc), .second, .val (.int x0), .val (.int x1), .val (.int x2), .val (.int x3), .val (.int (((p5.toUInt32 >>> ((11 : Int32) &&& 31).toUInt32).toInt32) &&& (3 : Int32))), .unset, .unset, .unset, .unset, .unset, .unset, .unset] [(.int (3 : Int32))]))
      refine own_go (fun t k => XS.ifYes X0.here hx rfl (pc0 := 123) (pc' := 130) rfl (hb hby at_123) rfl ((if0 _ _).trans (feq (by decide : ¬ ((3 : Int32) = (0 : Int32)))).2) (by decide) (by decide) k) ?_
      refine own_go (fun t k => XS.iload X0.here hx rfl (hb hby at_130) rfl  k) ?_
      refine own_go (fun t k => XS.iconst X0.here hx rfl (hb hby at_132) k) ?_
      refine own_go (fun t k => XS.iushr X0.here hx rfl (hb hby at_133) rfl k) ?_
      refine own_go (fun t k => XS.sipush X0.here hx rfl (hb hby at_134) k) ?_
      show own_Run p e below Φ (s₁.setTop (mkF m 137 #[.val (.int p1), .val (.int p2), .val (.int p3), .val (.int p4), .val (.int p5), .val (.int p6), .val (.int (3 : Int32)), .val (.long la), .second, .val (.long lb), .second, .val (.long lc), .second, .val (.long ld), .second, .val (.long lc), .second, .val (.int x0), .val (.int x1), .val (.int x2), .val (.int x3), .val (.int (((p5.toUInt32 >>> ((11 : Int32) &&& 31).toUInt32).toInt32) &&& (3 : Int32))), .unset, .unset, .unset, .unset, .unset, .unset, .unset] [(.int (255 : Int32)), (.int ((p5.toUInt32 >>> ((3 : Int32) &&& 31).toUInt32).toInt32))]))
      refine own_go (fun t k => XS.iand X0.here hx rfl (hb hby at_137) rfl k) ?_
      refine own_go (fun t k => XS.iload X0.here hx rfl (hb hby at_138) rfl  k) ?_
      refine own_go (fun t k => Jvm.RoadKit.iremM X0 hx rfl (hb hby at_140) rfl (by decide) k) ?_
      exact J141_123 ((((p5.toUInt32 >>> ((3 : Int32) &&& 31).toUInt32).toInt32) &&& (255 : Int32)) % (3 : Int32))
  · rw [e1]
    show own_Run p e below Φ (s₁.setTop (mkF m 9 #[.val (.int p1), .val (.int p2), .val (.int p3), .val (.int p4), .val (.int p5), .val (.int p6), .val (.int (4 : Int32)), .unset, .unset, .unset, .unset, .unset, .unset, .unset, .unset, .unset, .unset, .unset, .unset, .unset, .unset, .unset, .unset, .unset, .unset, .unset, .unset, .unset, .unset] []))
    refine own_go (fun t k => XS.iloadN X0.here hx rfl (hb hby at_9) rfl  k) ?_
    refine own_go (fun t k => XS.i2l X0.here hx rfl (hb hby at_10) rfl k) ?_
    refine own_go (fun t k => XS.lstore X0.here hx rfl (hb hby at_11) rfl (l' := #[.val (.int p1), .val (.int p2), .val (.int p3), .val (.int p4), .val (.int p5), .val (.int p6), .val (.int (4 : Int32)), .val (.long (p1.toInt64)), .second, .unset, .unset, .unset, .unset, .unset, .unset, .unset, .unset, .unset, .unset, .unset, .unset, .unset, .unset, .unset, .unset, .unset, .unset, .unset, .unset]) rfl k) ?_
    show own_Run p e below Φ (s₁.setTop (mkF m 13 #[.val (.int p1), .val (.int p2), .val (.int p3), .val (.int p4), .val (.int p5), .val (.int p6), .val (.int (4 : Int32)), .val (.long (p1.toInt64)), .second, .unset, .unset, .unset, .unset, .unset, .unset, .unset, .unset, .unset, .unset, .unset, .unset, .unset, .unset, .unset, .unset, .unset, .unset, .unset, .unset] []))
    refine own_go (fun t k => XS.lload X0.here hx rfl (hb hby at_13) rfl  k) ?_
    refine own_go (fun t k => XS.lconst X0.here hx rfl (hb hby at_15) k) ?_
    refine own_go (fun t k => XS.ladd X0.here hx rfl (hb hby at_16) rfl k) ?_
    refine own_go (fun t k => XS.iloadN X0.here hx rfl (hb hby at_17) rfl  k) ?_
    refine own_go (X0.ldcInt hx hown (mvT hZ (hw _ (List.mem_of_getElem? (i := 0) rfl))) (g := (mkF m 18 #[.val (.int p1), .val (.int p2), .val (.int p3), .val (.int p4), .val (.int p5), .val (.int p6), .val (.int (4 : Int32)), .val (.long (p1.toInt64)), .second, .unset, .unset, .unset, .unset, .unset, .unset, .unset, .unset, .unset, .unset, .unset, .unset, .unset, .unset, .unset, .unset, .unset, .unset, .unset, .unset] [(.int p2), (.long ((p1.toInt64) + (1 : Int64)))])) rfl (hb hby at_18)) ?_
    show own_Run p e below Φ (s₁.setTop (mkF m 20 #[.val (.int p1), .val (.int p2), .val (.int p3), .val (.int p4), .val (.int p5), .val (.int p6), .val (.int (4 : Int32)), .val (.long (p1.toInt64)), .second, .unset, .unset, .unset, .unset, .unset, .unset, .unset, .unset, .unset, .unset, .unset, .unset, .unset, .unset, .unset, .unset, .unset, .unset, .unset, .unset] [(.int (65535 : Int32)), (.int p2), (.long ((p1.toInt64) + (1 : Int64)))]))
    refine own_go (fun t k => XS.iand X0.here hx rfl (hb hby at_20) rfl k) ?_
    refine own_go (fun t k => XS.i2l X0.here hx rfl (hb hby at_21) rfl k) ?_
    refine own_go (fun t k => XS.ladd X0.here hx rfl (hb hby at_22) rfl k) ?_
    refine own_go (fun t k => XS.lstore X0.here hx rfl (hb hby at_23) rfl (l' := #[.val (.int p1), .val (.int p2), .val (.int p3), .val (.int p4), .val (.int p5), .val (.int p6), .val (.int (4 : Int32)), .val (.long (p1.toInt64)), .second, .val (.long (((p1.toInt64) + (1 : Int64)) + ((p2 &&& (65535 : Int32)).toInt64))), .second, .unset, .unset, .unset, .unset, .unset, .unset, .unset, .unset, .unset, .unset, .unset, .unset, .unset, .unset, .unset, .unset, .unset, .unset]) rfl k) ?_
    refine own_go (fun t k => XS.lload X0.here hx rfl (hb hby at_25) rfl  k) ?_
    show own_Run p e below Φ (s₁.setTop (mkF m 27 #[.val (.int p1), .val (.int p2), .val (.int p3), .val (.int p4), .val (.int p5), .val (.int p6), .val (.int (4 : Int32)), .val (.long (p1.toInt64)), .second, .val (.long (((p1.toInt64) + (1 : Int64)) + ((p2 &&& (65535 : Int32)).toInt64))), .second, .unset, .unset, .unset, .unset, .unset, .unset, .unset, .unset, .unset, .unset, .unset, .unset, .unset, .unset, .unset, .unset, .unset, .unset] [(.long (((p1.toInt64) + (1 : Int64)) + ((p2 &&& (65535 : Int32)).toInt64)))]))
    refine own_go (fun t k => XS.lconst X0.here hx rfl (hb hby at_27) k) ?_
    refine own_go (fun t k => XS.ladd X0.here hx rfl (hb hby at_28) rfl k) ?_
    refine own_go (fun t k => XS.iloadN X0.here hx rfl (hb hby at_29) rfl  k) ?_
    refine own_go (X0.ldcInt hx hown (mvT hZ (hw _ (List.mem_of_getElem? (i := 0) rfl))) (g := (mkF m 30 #[.val (.int p1), .val (.int p2), .val (.int p3), .val (.int p4), .val (.int p5), .val (.int p6), .val (.int (4 : Int32)), .val (.long (p1.toInt64)), .second, .val (.long (((p1.toInt64) + (1 : Int64)) + ((p2 &&& (65535 : Int32)).toInt64))), .second, .unset, .unset, .unset, .unset, .unset, .unset, .unset, .unset, .unset, .unset, .unset, .unset, .unset, .unset, .unset, .unset, .unset, .unset] [(.int p3), (.long ((((p1.toInt64) + (1 : Int64)) + ((p2 &&& (65535 : Int32)).toInt64)) + (1 : Int64)))])) rfl (hb hby at_30)) ?_
    refine own_go (fun t k => XS.iand X0.here hx rfl (hb hby at_32) rfl k) ?_
    show own_Run p e below Φ (s₁.setTop (mkF m 33 #[.val (.int p1), .val (.int p2), .val (.int p3), .val (.int p4), .val (.int p5), .val (.int p6), .val (.int (4 : Int32)), .val (.long (p1.toInt64)), .second, .val (.long (((p1.toInt64) + (1 : Int64)) + ((p2 &&& (65535 : Int32)).toInt64))), .second, .unset, .unset, .unset, .unset, .unset, .unset, .unset, .unset, .unset, .unset, .unset, .unset, .unset, .unset, .unset, .unset, .unset, .unset] [(.int (p3 &&& (65535 : Int32))), (.long ((((p1.toInt64) + (1 : Int64)) + ((p2 &&& (65535 : Int32)).toInt64)) + (1 : Int64)))]))
    refine own_go (fun t k => XS.i2l X0.here hx rfl (hb hby at_33) rfl k) ?_
    refine own_go (fun t k => XS.ladd X0.here hx rfl (hb hby at_34) rfl k) ?_
    refine own_go (fun t k => XS.lstore X0.here hx rfl (hb hby at_35) rfl (l' := #[.val (.int p1), .val (.int p2), .val (.int p3), .val (.int p4), .val (.int p5), .val (.int p6), .val (.int (4 : Int32)), .val (.long (p1.toInt64)), .second, .val (.long (((p1.toInt64) + (1 : Int64)) + ((p2 &&& (65535 : Int32)).toInt64))), .second, .val (.long (((((p1.toInt64) + (1 : Int64)) + ((p2 &&& (65535 : Int32)).toInt64)) + (1 : Int64)) + ((p3 &&& (65535 : Int32)).toInt64))), .second, .unset, .unset, .unset, .unset, .unset, .unset, .unset, .unset, .unset, .unset, .unset, .unset, .unset, .unset, .unset, .unset]) rfl k) ?_
    refine own_go (fun t k => XS.lload X0.here hx rfl (hb hby at_37) rfl  k) ?_
    refine own_go (fun t k => XS.lconst X0.here hx rfl (hb hby at_39) k) ?_
    show own_Run p e below Φ (s₁.setTop (mkF m 40 #[.val (.int p1), .val (.int p2), .val (.int p3), .val (.int p4), .val (.int p5), .val (.int p6), .val (.int (4 : Int32)), .val (.long (p1.toInt64)), .second, .val (.long (((p1.toInt64) + (1 : Int64)) + ((p2 &&& (65535 : Int32)).toInt64))), .second, .val (.long (((((p1.toInt64) + (1 : Int64)) + ((p2 &&& (65535 : Int32)).toInt64)) + (1 : Int64)) + ((p3 &&& (65535 : Int32)).toInt64))), .second, .unset, .unset, .unset, .unset, .unset, .unset, .unset, .unset, .unset, .unset, .unset, .unset, .unset, .unset, .unset, .unset] [(.long (1 : Int64)), (.long (((((p1.toInt64) + (1 : Int64)) + ((p2 &&& (65535 : Int32)).toInt64)) + (1 : Int64)) + ((p3 &&& (65535 : Int32)).toInt64)))]))
    refine own_go (fun t k => XS.ladd X0.here hx rfl (hb hby at_40) rfl k) ?_
    refine own_go (fun t k => XS.iloadN X0.here hx rfl (hb hby at_41) rfl  k) ?_
    refine own_go (X0.ldcInt hx hown (mvT hZ (hw _ (List.mem_of_getElem? (i := 0) rfl))) (g := (mkF m 42 #[.val (.int p1), .val (.int p2), .val (.int p3), .val (.int p4), .val (.int p5), .val (.int p6), .val (.int (4 : Int32)), .val (.long (p1.toInt64)), .second, .val (.long (((p1.toInt64) + (1 : Int64)) + ((p2 &&& (65535 : Int32)).toInt64))), .second, .val (.long (((((p1.toInt64) + (1 : Int64)) + ((p2 &&& (65535 : Int32)).toInt64)) + (1 : Int64)) + ((p3 &&& (65535 : Int32)).toInt64))), .second, .unset, .unset, .unset, .unset, .unset, .unset, .unset, .unset, .unset, .unset, .unset, .unset, .unset, .unset, .unset, .unset] [(.int p4), (.long ((((((p1.toInt64) + (1 : Int64)) + ((p2 &&& (65535 : Int32)).toInt64)) + (1 : Int64)) + ((p3 &&& (65535 : Int32)).toInt64)) + (1 : Int64)))])) rfl (hb hby at_42)) ?_
    refine own_go (fun t k => XS.iand X0.here hx rfl (hb hby at_44) rfl k) ?_
    refine own_go (fun t k => XS.i2l X0.here hx rfl (hb hby at_45) rfl k) ?_
    show own_Run p e below Φ (s₁.setTop (mkF m 46 #[.val (.int p1), .val (.int p2), .val (.int p3), .val (.int p4), .val (.int p5), .val (.int p6), .val (.int (4 : Int32)), .val (.long (p1.toInt64)), .second, .val (.long (((p1.toInt64) + (1 : Int64)) + ((p2 &&& (65535 : Int32)).toInt64))), .second, .val (.long (((((p1.toInt64) + (1 : Int64)) + ((p2 &&& (65535 : Int32)).toInt64)) + (1 : Int64)) + ((p3 &&& (65535 : Int32)).toInt64))), .second, .unset, .unset, .unset, .unset, .unset, .unset, .unset, .unset, .unset, .unset, .unset, .unset, .unset, .unset, .unset, .unset] [(.long ((p4 &&& (65535 : Int32)).toInt64)), (.long ((((((p1.toInt64) + (1 : Int64)) + ((p2 &&& (65535 : Int32)).toInt64)) + (1 : Int64)) + ((p3 &&& (65535 : Int32)).toInt64)) + (1 : Int64)))]))
    refine own_go (fun t k => XS.ladd X0.here hx rfl (hb hby at_46) rfl k) ?_
    refine own_go (fun t k => XS.lstore X0.here hx rfl (hb hby at_47) rfl (l' := #[.val (.int p1), .val (.int p2), .val (.int p3), .val (.int p4), .val (.int p5), .val (.int p6), .val (.int (4 : Int32)), .val (.long (p1.toInt64)), .second, .val (.long (((p1.toInt64) + (1 : Int64)) + ((p2 &&& (65535 : Int32)).toInt64))), .second, .val (.long (((((p1.toInt64) + (1 : Int64)) + ((p2 &&& (65535 : Int32)).toInt64)) + (1 : Int64)) + ((p3 &&& (65535 : Int32)).toInt64))), .second, .val (.long (((((((p1.toInt64) + (1 : Int64)) + ((p2 &&& (65535 : Int32)).toInt64)) + (1 : Int64)) + ((p3 &&& (65535 : Int32)).toInt64)) + (1 : Int64)) + ((p4 &&& (65535 : Int32)).toInt64))), .second, .unset, .unset, .unset, .unset, .unset, .unset, .unset, .unset, .unset, .unset, .unset, .unset, .unset, .unset]) rfl k) ?_
    show own_Run p e below Φ (s₁.setTop (mkF m 49 #[.val (.int p1), .val (.int p2), .val (.int p3), .val (.int p4), .val (.int p5), .val (.int p6), .val (.int (4 : Int32)), .val (.long (p1.toInt64)), .second, .val (.long (((p1.toInt64) + (1 : Int64)) + ((p2 &&& (65535 : Int32)).toInt64))), .second, .val (.long (((((p1.toInt64) + (1 : Int64)) + ((p2 &&& (65535 : Int32)).toInt64)) + (1 : Int64)) + ((p3 &&& (65535 : Int32)).toInt64))), .second, .val (.long (((((((p1.toInt64) + (1 : Int64)) + ((p2 &&& (65535 : Int32)).toInt64)) + (1 : Int64)) + ((p3 &&& (65535 : Int32)).toInt64)) + (1 : Int64)) + ((p4 &&& (65535 : Int32)).toInt64))), .second, .unset, .unset, .unset, .unset, .unset, .unset, .unset, .unset, .unset, .unset, .unset, .unset, .unset, .unset] []))
    have r0 := rng32 p1
    have q0 := c_i2l p1
    generalize ela : (p1.toInt64) = la at q0 ⊢
    obtain ⟨qlb, mlb, wlb⟩ := own_up la p2 (by omega) (by omega)
    generalize elb : ((la + (1 : Int64)) + ((p2 &&& (65535 : Int32)).toInt64)) = lb at qlb ⊢
    obtain ⟨qlc, mlc, wlc⟩ := own_up lb p3 (by omega) (by omega)
    generalize elc : ((lb + (1 : Int64)) + ((p3 &&& (65535 : Int32)).toInt64)) = lc at qlc ⊢
    obtain ⟨qld, mld, wld⟩ := own_up lc p4 (by omega) (by omega)
    generalize eld : ((lc + (1 : Int64)) + ((p4 &&& (65535 : Int32)).toInt64)) = ld at qld ⊢
    show own_Run p e below Φ (s₁.setTop (mkF m 49 #[.val (.int p1), .val (.int p2), .val (.int p3), .val (.int p4), .val (.int p5), .val (.int p6), .val (.int (4 : Int32)), .val (.long la), .second, .val (.long lb), .second, .val (.long lc), .second, .val (.long ld), .second, .unset, .unset, .unset, .unset, .unset, .unset, .unset, .unset, .unset, .unset, .unset, .unset, .unset, .unset] []))
    refine own_go (fun t k => XS.iload X0.here hx rfl (hb hby at_49) rfl  k) ?_
    refine own_go (fun t k => XS.iconst X0.here hx rfl (hb hby at_51) k) ?_
    refine own_go (fun t k => XS.icmpNo X0.here hx rfl (hb hby at_52) rfl (teq (rfl : (4 : Int32) = (4 : Int32))).2 k) ?_
    refine own_go (fun t k => XS.lload X0.here hx rfl (hb hby at_55) rfl  k) ?_
    refine own_go (fun t k => XS.goto X0.here hx rfl (pc0 := 57) (pc' := 73) rfl (hb hby at_57) (by decide) (by decide) k) ?_
    show own_Run p e below Φ (s₁.setTop (mkF m 73 #[.val (.int p1), .val (.int p2), .val (.int p3), .val (.int p4), .val (.int p5), .val (.int p6), .val (.int (4 : Int32)), .val (.long la), .second, .val (.long lb), .second, .val (.long lc), .second, .val (.long ld), .second, .unset, .unset, .unset, .unset, .unset, .unset, .unset, .unset, .unset, .unset, .unset, .unset, .unset, .unset] [(.long ld)]))
    refine own_go (fun t k => XS.lstore X0.here hx rfl (hb hby at_73) rfl (l' := #[.val (.int p1), .val (.int p2), .val (.int p3), .val (.int p4), .val (.int p5), .val (.int p6), .val (.int (4 : Int32)), .val (.long la), .second, .val (.long lb), .second, .val (.long lc), .second, .val (.long ld), .second, .val (.long ld), .second, .unset, .unset, .unset, .unset, .unset, .unset, .unset, .unset, .unset, .unset, .unset, .unset]) rfl k) ?_
    refine own_go (fun t k => XS.iload X0.here hx rfl (hb hby at_75) rfl  k) ?_
    refine own_go (fun t k => XS.iconst X0.here hx rfl (hb hby at_77) k) ?_
    refine own_go (fun t k => XS.icmpNo X0.here hx rfl (hb hby at_78) rfl (flt (by decide : ¬ ((4 : Int32) < (2 : Int32)))).1 k) ?_
    refine own_go (fun t k => XS.lload X0.here hx rfl (hb hby at_81) rfl  k) ?_
    show own_Run p e below Φ (s₁.setTop (mkF m 83 #[.val (.int p1), .val (.int p2), .val (.int p3), .val (.int p4), .val (.int p5), .val (.int p6), .val (.int (4 : Int32)), .val (.long la), .second, .val (.long lb), .second, .val (.long lc), .second, .val (.long ld), .second, .val (.long ld), .second, .unset, .unset, .unset, .unset, .unset, .unset, .unset, .unset, .unset, .unset, .unset, .unset] [(.long ld)]))
    refine own_go (X0.ldc2Long hx hown (mvT hZ (hw _ (List.mem_of_getElem? (i := 32) rfl))) (g := (mkF m 83 #[.val (.int p1), .val (.int p2), .val (.int p3), .val (.int p4), .val (.int p5), .val (.int p6), .val (.int (4 : Int32)), .val (.long la), .second, .val (.long lb), .second, .val (.long lc), .second, .val (.long ld), .second, .val (.long ld), .second, .unset, .unset, .unset, .unset, .unset, .unset, .unset, .unset, .unset, .unset, .unset, .unset] [(.long ld)])) rfl (hb hby at_83)) ?_
    refine own_go (fun t k => XS.lcmp X0.here hx rfl (hb hby at_86) rfl k) ?_
    by_cases hc87 : (0 : Int32) < (lcmpW ld (2147483647 : Int64))
    · refine own_go (fun t k => XS.ifNo X0.here hx rfl (hb hby at_87) rfl ((if0 _ _).trans (tlt hc87).2.2.2) k) ?_
      refine own_go (fun t k => XS.iconst X0.here hx rfl (hb hby at_90) k) ?_
      subst hΦ
      exact own_retN X0 hx (t := .boolean) Bd.returns (by simp) hlk (hb hby at_91) e0 ⟨rfl, N0⟩ (by decide) (by decide)
    · refine own_go (fun t k => XS.ifYes X0.here hx rfl (pc0 := 87) (pc' := 92) rfl (hb hby at_87) rfl ((if0 _ _).trans (flt hc87).2.2.2) (by decide) (by decide) k) ?_
      show own_Run p e below Φ (s₁.setTop (mkF m 92 #[.val (.int p1), .val (.int p2), .val (.int p3), .val (.int p4), .val (.int p5), .val (.int p6), .val (.int (4 : Int32)), .val (.long la), .second, .val (.long lb), .second, .val (.long lc), .second, .val (.long ld), .second, .val (.long ld), .second, .unset, .unset, .unset, .unset, .unset, .unset, .unset, .unset, .unset, .unset, .unset, .unset] []))
      refine own_go (fun t k => XS.lload X0.here hx rfl (hb hby at_92) rfl  k) ?_
      refine own_go (fun t k => XS.l2i X0.here hx rfl (hb hby at_94) rfl k) ?_
      refine own_go (fun t k => XS.istore X0.here hx rfl (hb hby at_95) rfl (l' := #[.val (.int p1), .val (.int p2), .val (.int p3), .val (.int p4), .val (.int p5), .val (.int p6), .val (.int (4 : Int32)), .val (.long la), .second, .val (.long lb), .second, .val (.long lc), .second, .val (.long ld), .second, .val (.long ld), .second, .val (.int (la.toInt32)), .unset, .unset, .unset, .unset, .unset, .unset, .unset, .unset, .unset, .unset, .unset]) rfl k) ?_
      refine own_go (fun t k => XS.lload X0.here hx rfl (hb hby at_97) rfl  k) ?_
      refine own_go (fun t k => XS.l2i X0.here hx rfl (hb hby at_99) rfl k) ?_
      show own_Run p e below Φ (s₁.setTop (mkF m 100 #[.val (.int p1), .val (.int p2), .val (.int p3), .val (.int p4), .val (.int p5), .val (.int p6), .val (.int (4 : Int32)), .val (.long la), .second, .val (.long lb), .second, .val (.long lc), .second, .val (.long ld), .second, .val (.long ld), .second, .val (.int (la.toInt32)), .unset, .unset, .unset, .unset, .unset, .unset, .unset, .unset, .unset, .unset, .unset] [(.int (lb.toInt32))]))
      refine own_go (fun t k => XS.istore X0.here hx rfl (hb hby at_100) rfl (l' := #[.val (.int p1), .val (.int p2), .val (.int p3), .val (.int p4), .val (.int p5), .val (.int p6), .val (.int (4 : Int32)), .val (.long la), .second, .val (.long lb), .second, .val (.long lc), .second, .val (.long ld), .second, .val (.long ld), .second, .val (.int (la.toInt32)), .val (.int (lb.toInt32)), .unset, .unset, .unset, .unset, .unset, .unset, .unset, .unset, .unset, .unset]) rfl k) ?_
      refine own_go (fun t k => XS.lload X0.here hx rfl (hb hby at_102) rfl  k) ?_
      refine own_go (fun t k => XS.l2i X0.here hx rfl (hb hby at_104) rfl k) ?_
      refine own_go (fun t k => XS.istore X0.here hx rfl (hb hby at_105) rfl (l' := #[.val (.int p1), .val (.int p2), .val (.int p3), .val (.int p4), .val (.int p5), .val (.int p6), .val (.int (4 : Int32)), .val (.long la), .second, .val (.long lb), .second, .val (.long lc), .second, .val (.long ld), .second, .val (.long ld), .second, .val (.int (la.toInt32)), .val (.int (lb.toInt32)), .val (.int (lc.toInt32)), .unset, .unset, .unset, .unset, .unset, .unset, .unset, .unset, .unset]) rfl k) ?_
      refine own_go (fun t k => XS.lload X0.here hx rfl (hb hby at_107) rfl  k) ?_
      show own_Run p e below Φ (s₁.setTop (mkF m 109 #[.val (.int p1), .val (.int p2), .val (.int p3), .val (.int p4), .val (.int p5), .val (.int p6), .val (.int (4 : Int32)), .val (.long la), .second, .val (.long lb), .second, .val (.long lc), .second, .val (.long ld), .second, .val (.long ld), .second, .val (.int (la.toInt32)), .val (.int (lb.toInt32)), .val (.int (lc.toInt32)), .unset, .unset, .unset, .unset, .unset, .unset, .unset, .unset, .unset] [(.long ld)]))
      refine own_go (fun t k => XS.l2i X0.here hx rfl (hb hby at_109) rfl k) ?_
      refine own_go (fun t k => XS.istore X0.here hx rfl (hb hby at_110) rfl (l' := #[.val (.int p1), .val (.int p2), .val (.int p3), .val (.int p4), .val (.int p5), .val (.int p6), .val (.int (4 : Int32)), .val (.long la), .second, .val (.long lb), .second, .val (.long lc), .second, .val (.long ld), .second, .val (.long ld), .second, .val (.int (la.toInt32)), .val (.int (lb.toInt32)), .val (.int (lc.toInt32)), .val (.int (ld.toInt32)), .unset, .unset, .unset, .unset, .unset, .unset, .unset, .unset]) rfl k) ?_
      show own_Run p e below Φ (s₁.setTop (mkF m 112 #[.val (.int p1), .val (.int p2), .val (.int p3), .val (.int p4), .val (.int p5), .val (.int p6), .val (.int (4 : Int32)), .val (.long la), .second, .val (.long lb), .second, .val (.long lc), .second, .val (.long ld), .second, .val (.long ld), .second, .val (.int (la.toInt32)), .val (.int (lb.toInt32)), .val (.int (lc.toInt32)), .val (.int (ld.toInt32)), .unset, .unset, .unset, .unset, .unset, .unset, .unset, .unset] []))
      have top := own_top _ hc87
      have d0 := own_dn la (by omega) (by omega)
      generalize ed0 : la.toInt32 = x0 at d0 ⊢
      have d1 := own_dn lb (by omega) (by omega)
      generalize ed1 : lb.toInt32 = x1 at d1 ⊢
      have d2 := own_dn lc (by omega) (by omega)
      generalize ed2 : lc.toInt32 = x2 at d2 ⊢
      have d3 := own_dn ld (by omega) (by omega)
      generalize ed3 : ld.toInt32 = x3 at d3 ⊢
      have J230_125 : ∀ (q : Int32) (m1 : Int32) (m2 : Int32) (m3 : Int32), own_Run p e below Φ (s₁.setTop (mkF m 230 #[.val (.int p1), .val (.int p2), .val (.int p3), .val (.int p4), .val (.int p5), .val (.int p6), .val (.int (4 : Int32)), .val (.long la), .second, .val (.long lb), .second, .val (.long lc), .second, .val (.long ld), .second, .val (.long ld), .second, .val (.int x0), .val (.int x1), .val (.int x2), .val (.int x3), .val (.int m1), .val (.int m2), .val (.int m3), .val (.int q), .unset, .unset, .unset, .unset] [])) := by
        intro q m1 m2 m3
        show own_Run p e below Φ (s₁.setTop (mkF m 230 #[.val (.int p1), .val (.int p2), .val (.int p3), .val (.int p4), .val (.int p5), .val (.int p6), .val (.int (4 : Int32)), .val (.long la), .second, .val (.long lb), .second, .val (.long lc), .second, .val (.long ld), .second, .val (.long ld), .second, .val (.int x0), .val (.int x1), .val (.int x2), .val (.int x3), .val (.int m1), .val (.int m2), .val (.int m3), .val (.int q), .unset, .unset, .unset, .unset] []))
        refine own_go (fun t k => XS.iconst X0.here hx rfl (hb hby at_230) k) ?_
        refine own_newP X0 hx hZ (hw _ (List.mem_of_getElem? (i := 1) rfl)) e0 (g := (mkF m 231 #[.val (.int p1), .val (.int p2), .val (.int p3), .val (.int p4), .val (.int p5), .val (.int p6), .val (.int (4 : Int32)), .val (.long la), .second, .val (.long lb), .second, .val (.long lc), .second, .val (.long ld), .second, .val (.long ld), .second, .val (.int x0), .val (.int x1), .val (.int x2), .val (.int x3), .val (.int m1), .val (.int m2), .val (.int m3), .val (.int q), .unset, .unset, .unset, .unset] [(.int (5 : Int32))])) rfl (hb hby at_231) rfl (by decide) 5 (by decide) (by decide) (by decide) (by decide) 5 (fun T126 h126 k126 b126 X126 e126 E126 g126 V126 => ?_)
        replace V126 : Arv Z h126 b126 k126 .int (5 : Int32) [(.int (0 : Int32)), (.int (0 : Int32)), (.int (0 : Int32)), (.int (0 : Int32)), (.int (0 : Int32))] (.int (0 : Int32)) := V126
        refine own_go (fun t k => XS.astore X126.here hx rfl (hb hby at_233) rfl rfl (l' := #[.val (.int p1), .val (.int p2), .val (.int p3), .val (.int p4), .val (.int p5), .val (.int p6), .val (.int (4 : Int32)), .val (.long la), .second, .val (.long lb), .second, .val (.long lc), .second, .val (.long ld), .second, .val (.long ld), .second, .val (.int x0), .val (.int x1), .val (.int x2), .val (.int x3), .val (.int m1), .val (.int m2), .val (.int m3), .val (.int q), .val (.ref b126), .unset, .unset, .unset]) rfl k) ?_
        refine own_go (fun t k => XS.iconst X126.here hx rfl (hb hby at_235) k) ?_
        have F129 : n0 ≤ h126.size := (Nat.le_trans Z0 E126.1)
        refine own_newP X126 hx hZ (hw _ (List.mem_of_getElem? (i := 1) rfl)) e126 (g := (mkF m 236 #[.val (.int p1), .val (.int p2), .val (.int p3), .val (.int p4), .val (.int p5), .val (.int p6), .val (.int (4 : Int32)), .val (.long la), .second, .val (.long lb), .second, .val (.long lc), .second, .val (.long ld), .second, .val (.long ld), .second, .val (.int x0), .val (.int x1), .val (.int x2), .val (.int x3), .val (.int m1), .val (.int m2), .val (.int m3), .val (.int q), .val (.ref b126), .unset, .unset, .unset] [(.int (5 : Int32))])) rfl (hb hby at_236) rfl (by decide) 5 (by decide) (by decide) (by decide) (by decide) 5 (fun T128 h128 k128 b128 X128 e128 E128 g128 V128 => ?_)
        have ne_b126_b128 : b126 ≠ b128 := Nat.ne_of_lt (Nat.lt_of_lt_of_le V126.lt (Nat.le_of_eq g128.symm))
        replace V128 : Arv Z h128 b128 k128 .int (5 : Int32) [(.int (0 : Int32)), (.int (0 : Int32)), (.int (0 : Int32)), (.int (0 : Int32)), (.int (0 : Int32))] (.int (0 : Int32)) := V128
        show own_Run p e below Φ (T128.setTop (mkF m 238 #[.val (.int p1), .val (.int p2), .val (.int p3), .val (.int p4), .val (.int p5), .val (.int p6), .val (.int (4 : Int32)), .val (.long la), .second, .val (.long lb), .second, .val (.long lc), .second, .val (.long ld), .second, .val (.long ld), .second, .val (.int x0), .val (.int x1), .val (.int x2), .val (.int x3), .val (.int m1), .val (.int m2), .val (.int m3), .val (.int q), .val (.ref b126), .unset, .unset, .unset] [(.ref b128)]))
        refine own_go (fun t k => XS.astore X128.here hx rfl (hb hby at_238) rfl rfl (l' := #[.val (.int p1), .val (.int p2), .val (.int p3), .val (.int p4), .val (.int p5), .val (.int p6), .val (.int (4 : Int32)), .val (.long la), .second, .val (.long lb), .second, .val (.long lc), .second, .val (.long ld), .second, .val (.long ld), .second, .val (.int x0), .val (.int x1), .val (.int x2), .val (.int x3), .val (.int m1), .val (.int m2), .val (.int m3), .val (.int q), .val (.ref b126), .val (.ref b128), .unset, .unset]) rfl k) ?_
        refine own_go (fun t k => XS.aload X128.here hx rfl (hb hby at_240) rfl rfl  k) ?_
        refine own_go (fun t k => XS.iconst X128.here hx rfl (hb hby at_242) k) ?_
        refine own_go (fun t k => XS.iload X128.here hx rfl (hb hby at_243) rfl  k) ?_
        refine own_go (fun t k => XS.ifNo X128.here hx rfl (hb hby at_245) rfl ((if0 _ _).trans (tlt (by decide : (0 : Int32) < (4 : Int32))).2.2.2) k) ?_
        show own_Run p e below Φ (T128.setTop (mkF m 248 #[.val (.int p1), .val (.int p2), .val (.int p3), .val (.int p4), .val (.int p5), .val (.int p6), .val (.int (4 : Int32)), .val (.long la), .second, .val (.long lb), .second, .val (.long lc), .second, .val (.long ld), .second, .val (.long ld), .second, .val (.int x0), .val (.int x1), .val (.int x2), .val (.int x3), .val (.int m1), .val (.int m2), .val (.int m3), .val (.int q), .val (.ref b126), .val (.ref b128), .unset, .unset] [(.int (0 : Int32)), (.ref b126)]))
        refine own_go (fun t k => XS.iload X128.here hx rfl (hb hby at_248) rfl  k) ?_
        refine own_go (fun t k => XS.goto X128.here hx rfl (pc0 := 250) (pc' := 255) rfl (hb hby at_250) (by decide) (by decide) k) ?_
        have F131 : Arv Z h128 b126 k126 .int (5 : Int32) [(.int (0 : Int32)), (.int (0 : Int32)), (.int (0 : Int32)), (.int (0 : Int32)), (.int (0 : Int32))] (.int (0 : Int32)) := (V126.ext E128)
        refine own_iastore X128 hx hZ e128 F131 (j := (0 : Int32)) ⟨by decide, by decide⟩ 0 rfl (Nat.le_of_ble_eq_true rfl) (g := (mkF m 255 #[.val (.int p1), .val (.int p2), .val (.int p3), .val (.int p4), .val (.int p5), .val (.int p6), .val (.int (4 : Int32)), .val (.long la), .second, .val (.long lb), .second, .val (.long lc), .second, .val (.long ld), .second, .val (.long ld), .second, .val (.int x0), .val (.int x1), .val (.int x2), .val (.int x3), .val (.int m1), .val (.int m2), .val (.int m3), .val (.int q), .val (.ref b126), .val (.ref b128), .unset, .unset] [(.int x0), (.int (0 : Int32)), (.ref b126)])) rfl rfl (hb hby at_255) (fun T132 h132 X132 e132 W132 V132 => ?_)
        replace V132 : Arv Z h132 b126 k126 .int (5 : Int32) [(.int x0), (.int (0 : Int32)), (.int (0 : Int32)), (.int (0 : Int32)), (.int (0 : Int32))] (.int (0 : Int32)) := V132
        have N132 := Fr.snoc X132 N0 (Nat.le_trans Z0 (Nat.le_of_eq g126.symm))
        refine own_go (fun t k => XS.aload X132.here hx rfl (hb hby at_256) rfl rfl  k) ?_
        refine own_go (fun t k => XS.iconst X132.here hx rfl (hb hby at_258) k) ?_
        show own_Run p e below Φ (T132.setTop (mkF m 259 #[.val (.int p1), .val (.int p2), .val (.int p3), .val (.int p4), .val (.int p5), .val (.int p6), .val (.int (4 : Int32)), .val (.long la), .second, .val (.long lb), .second, .val (.long lc), .second, .val (.long ld), .second, .val (.long ld), .second, .val (.int x0), .val (.int x1), .val (.int x2), .val (.int x3), .val (.int m1), .val (.int m2), .val (.int m3), .val (.int q), .val (.ref b126), .val (.ref b128), .unset, .unset] [(.int (1 : Int32)), (.ref b126)]))
        refine own_go (fun t k => XS.iload X132.here hx rfl (hb hby at_259) rfl  k) ?_
        refine own_go (fun t k => XS.iconst X132.here hx rfl (hb hby at_261) k) ?_
        refine own_go (fun t k => XS.icmpNo X132.here hx rfl (hb hby at_262) rfl (tlt (by decide : (1 : Int32) < (4 : Int32))).2.2.2 k) ?_
        refine own_go (fun t k => XS.iload X132.here hx rfl (hb hby at_265) rfl  k) ?_
        refine own_go (fun t k => XS.goto X132.here hx rfl (pc0 := 267) (pc' := 272) rfl (hb hby at_267) (by decide) (by decide) k) ?_
        show own_Run p e below Φ (T132.setTop (mkF m 272 #[.val (.int p1), .val (.int p2), .val (.int p3), .val (.int p4), .val (.int p5), .val (.int p6), .val (.int (4 : Int32)), .val (.long la), .second, .val (.long lb), .second, .val (.long lc), .second, .val (.long ld), .second, .val (.long ld), .second, .val (.int x0), .val (.int x1), .val (.int x2), .val (.int x3), .val (.int m1), .val (.int m2), .val (.int m3), .val (.int q), .val (.ref b126), .val (.ref b128), .unset, .unset] [(.int x1), (.int (1 : Int32)), (.ref b126)]))
        refine own_iastore X132 hx hZ e132 V132 (j := (1 : Int32)) ⟨by decide, by decide⟩ 1 rfl (Nat.le_of_ble_eq_true rfl) (g := (mkF m 272 #[.val (.int p1), .val (.int p2), .val (.int p3), .val (.int p4), .val (.int p5), .val (.int p6), .val (.int (4 : Int32)), .val (.long la), .second, .val (.long lb), .second, .val (.long lc), .second, .val (.long ld), .second, .val (.long ld), .second, .val (.int x0), .val (.int x1), .val (.int x2), .val (.int x3), .val (.int m1), .val (.int m2), .val (.int m3), .val (.int q), .val (.ref b126), .val (.ref b128), .unset, .unset] [(.int x1), (.int (1 : Int32)), (.ref b126)])) rfl rfl (hb hby at_272) (fun T133 h133 X133 e133 W133 V133 => ?_)
        replace V133 : Arv Z h133 b126 k126 .int (5 : Int32) [(.int x0), (.int x1), (.int (0 : Int32)), (.int (0 : Int32)), (.int (0 : Int32))] (.int (0 : Int32)) := V133
        have N133 := Fr.snoc X133 N132 (Nat.le_trans Z0 (Nat.le_of_eq g126.symm))
        refine own_go (fun t k => XS.aload X133.here hx rfl (hb hby at_273) rfl rfl  k) ?_
        refine own_go (fun t k => XS.iconst X133.here hx rfl (hb hby at_275) k) ?_
        refine own_go (fun t k => XS.iload X133.here hx rfl (hb hby at_276) rfl  k) ?_
        refine own_go (fun t k => XS.iconst X133.here hx rfl (hb hby at_278) k) ?_
        show own_Run p e below Φ (T133.setTop (mkF m 279 #[.val (.int p1), .val (.int p2), .val (.int p3), .val (.int p4), .val (.int p5), .val (.int p6), .val (.int (4 : Int32)), .val (.long la), .second, .val (.long lb), .second, .val (.long lc), .second, .val (.long ld), .second, .val (.long ld), .second, .val (.int x0), .val (.int x1), .val (.int x2), .val (.int x3), .val (.int m1), .val (.int m2), .val (.int m3), .val (.int q), .val (.ref b126), .val (.ref b128), .unset, .unset] [(.int (2 : Int32)), (.int (4 : Int32)), (.int (2 : Int32)), (.ref b126)]))
        refine own_go (fun t k => XS.icmpNo X133.here hx rfl (hb hby at_279) rfl (tlt (by decide : (2 : Int32) < (4 : Int32))).2.2.2 k) ?_
        refine own_go (fun t k => XS.iload X133.here hx rfl (hb hby at_282) rfl  k) ?_
        refine own_go (fun t k => XS.goto X133.here hx rfl (pc0 := 284) (pc' := 289) rfl (hb hby at_284) (by decide) (by decide) k) ?_
        refine own_iastore X133 hx hZ e133 V133 (j := (2 : Int32)) ⟨by decide, by decide⟩ 2 rfl (Nat.le_of_ble_eq_true rfl) (g := (mkF m 289 #[.val (.int p1), .val (.int p2), .val (.int p3), .val (.int p4), .val (.int p5), .val (.int p6), .val (.int (4 : Int32)), .val (.long la), .second, .val (.long lb), .second, .val (.long lc), .second, .val (.long ld), .second, .val (.long ld), .second, .val (.int x0), .val (.int x1), .val (.int x2), .val (.int x3), .val (.int m1), .val (.int m2), .val (.int m3), .val (.int q), .val (.ref b126), .val (.ref b128), .unset, .unset] [(.int x2), (.int (2 : Int32)), (.ref b126)])) rfl rfl (hb hby at_289) (fun T134 h134 X134 e134 W134 V134 => ?_)
        replace V134 : Arv Z h134 b126 k126 .int (5 : Int32) [(.int x0), (.int x1), (.int x2), (.int (0 : Int32)), (.int (0 : Int32))] (.int (0 : Int32)) := V134
        have N134 := Fr.snoc X134 N133 (Nat.le_trans Z0 (Nat.le_of_eq g126.symm))
        refine own_go (fun t k => XS.aload X134.here hx rfl (hb hby at_290) rfl rfl  k) ?_
        show own_Run p e below Φ (T134.setTop (mkF m 292 #[.val (.int p1), .val (.int p2), .val (.int p3), .val (.int p4), .val (.int p5), .val (.int p6), .val (.int (4 : Int32)), .val (.long la), .second, .val (.long lb), .second, .val (.long lc), .second, .val (.long ld), .second, .val (.long ld), .second, .val (.int x0), .val (.int x1), .val (.int x2), .val (.int x3), .val (.int m1), .val (.int m2), .val (.int m3), .val (.int q), .val (.ref b126), .val (.ref b128), .unset, .unset] [(.ref b126)]))
        refine own_go (fun t k => XS.iconst X134.here hx rfl (hb hby at_292) k) ?_
        refine own_go (fun t k => XS.iload X134.here hx rfl (hb hby at_293) rfl  k) ?_
        refine own_go (fun t k => XS.iconst X134.here hx rfl (hb hby at_295) k) ?_
        refine own_go (fun t k => XS.icmpNo X134.here hx rfl (hb hby at_296) rfl (tlt (by decide : (3 : Int32) < (4 : Int32))).2.2.2 k) ?_
        refine own_go (fun t k => XS.iload X134.here hx rfl (hb hby at_299) rfl  k) ?_
        show own_Run p e below Φ (T134.setTop (mkF m 301 #[.val (.int p1), .val (.int p2), .val (.int p3), .val (.int p4), .val (.int p5), .val (.int p6), .val (.int (4 : Int32)), .val (.long la), .second, .val (.long lb), .second, .val (.long lc), .second, .val (.long ld), .second, .val (.long ld), .second, .val (.int x0), .val (.int x1), .val (.int x2), .val (.int x3), .val (.int m1), .val (.int m2), .val (.int m3), .val (.int q), .val (.ref b126), .val (.ref b128), .unset, .unset] [(.int x3), (.int (3 : Int32)), (.ref b126)]))
        refine own_go (fun t k => XS.goto X134.here hx rfl (pc0 := 301) (pc' := 306) rfl (hb hby at_301) (by decide) (by decide) k) ?_
        refine own_iastore X134 hx hZ e134 V134 (j := (3 : Int32)) ⟨by decide, by decide⟩ 3 rfl (Nat.le_of_ble_eq_true rfl) (g := (mkF m 306 #[.val (.int p1), .val (.int p2), .val (.int p3), .val (.int p4), .val (.int p5), .val (.int p6), .val (.int (4 : Int32)), .val (.long la), .second, .val (.long lb), .second, .val (.long lc), .second, .val (.long ld), .second, .val (.long ld), .second, .val (.int x0), .val (.int x1), .val (.int x2), .val (.int x3), .val (.int m1), .val (.int m2), .val (.int m3), .val (.int q), .val (.ref b126), .val (.ref b128), .unset, .unset] [(.int x3), (.int (3 : Int32)), (.ref b126)])) rfl rfl (hb hby at_306) (fun T135 h135 X135 e135 W135 V135 => ?_)
        replace V135 : Arv Z h135 b126 k126 .int (5 : Int32) [(.int x0), (.int x1), (.int x2), (.int x3), (.int (0 : Int32))] (.int (0 : Int32)) := V135
        have N135 := Fr.snoc X135 N134 (Nat.le_trans Z0 (Nat.le_of_eq g126.symm))
        refine own_go (fun t k => XS.aload X135.here hx rfl (hb hby at_307) rfl rfl  k) ?_
        refine own_go (fun t k => XS.iconst X135.here hx rfl (hb hby at_309) k) ?_
        refine own_go (fun t k => XS.iload X135.here hx rfl (hb hby at_310) rfl  k) ?_
        show own_Run p e below Φ (T135.setTop (mkF m 312 #[.val (.int p1), .val (.int p2), .val (.int p3), .val (.int p4), .val (.int p5), .val (.int p6), .val (.int (4 : Int32)), .val (.long la), .second, .val (.long lb), .second, .val (.long lc), .second, .val (.long ld), .second, .val (.long ld), .second, .val (.int x0), .val (.int x1), .val (.int x2), .val (.int x3), .val (.int m1), .val (.int m2), .val (.int m3), .val (.int q), .val (.ref b126), .val (.ref b128), .unset, .unset] [(.int q), (.int (4 : Int32)), (.ref b126)]))
        refine own_iastore X135 hx hZ e135 V135 (j := (4 : Int32)) ⟨by decide, by decide⟩ 4 rfl (Nat.le_of_ble_eq_true rfl) (g := (mkF m 312 #[.val (.int p1), .val (.int p2), .val (.int p3), .val (.int p4), .val (.int p5), .val (.int p6), .val (.int (4 : Int32)), .val (.long la), .second, .val (.long lb), .second, .val (.long lc), .second, .val (.long ld), .second, .val (.long ld), .second, .val (.int x0), .val (.int x1), .val (.int x2), .val (.int x3), .val (.int m1), .val (.int m2), .val (.int m3), .val (.int q), .val (.ref b126), .val (.ref b128), .unset, .unset] [(.int q), (.int (4 : Int32)), (.ref b126)])) rfl rfl (hb hby at_312) (fun T136 h136 X136 e136 W136 V136 => ?_)
        replace V136 : Arv Z h136 b126 k126 .int (5 : Int32) [(.int x0), (.int x1), (.int x2), (.int x3), (.int q)] (.int (0 : Int32)) := V136
        have N136 := Fr.snoc X136 N135 (Nat.le_trans Z0 (Nat.le_of_eq g126.symm))
        refine own_go (fun t k => XS.aload X136.here hx rfl (hb hby at_313) rfl rfl  k) ?_
        refine own_go (fun t k => XS.iconst X136.here hx rfl (hb hby at_315) k) ?_
        refine own_go (fun t k => XS.iconst X136.here hx rfl (hb hby at_316) k) ?_
        have F137 : Arv Z h136 b128 k128 .int (5 : Int32) [(.int (0 : Int32)), (.int (0 : Int32)), (.int (0 : Int32)), (.int (0 : Int32)), (.int (0 : Int32))] (.int (0 : Int32)) := (((((V128.other W132 (Ne.symm ne_b126_b128)).other W133 (Ne.symm ne_b126_b128)).other W134 (Ne.symm ne_b126_b128)).other W135 (Ne.symm ne_b126_b128)).other W136 (Ne.symm ne_b126_b128))
        refine own_iastore X136 hx hZ e136 F137 (j := (0 : Int32)) ⟨by decide, by decide⟩ 0 rfl (Nat.le_of_ble_eq_true rfl) (g := (mkF m 317 #[.val (.int p1), .val (.int p2), .val (.int p3), .val (.int p4), .val (.int p5), .val (.int p6), .val (.int (4 : Int32)), .val (.long la), .second, .val (.long lb), .second, .val (.long lc), .second, .val (.long ld), .second, .val (.long ld), .second, .val (.int x0), .val (.int x1), .val (.int x2), .val (.int x3), .val (.int m1), .val (.int m2), .val (.int m3), .val (.int q), .val (.ref b126), .val (.ref b128), .unset, .unset] [(.int (1 : Int32)), (.int (0 : Int32)), (.ref b128)])) rfl rfl (hb hby at_317) (fun T138 h138 X138 e138 W138 V138 => ?_)
        replace V138 : Arv Z h138 b128 k128 .int (5 : Int32) [(.int (1 : Int32)), (.int (0 : Int32)), (.int (0 : Int32)), (.int (0 : Int32)), (.int (0 : Int32))] (.int (0 : Int32)) := V138
        have N138 := Fr.snoc X138 N136 (Nat.le_trans F129 (Nat.le_of_eq g128.symm))
        show own_Run p e below Φ (T138.setTop (mkF m 318 #[.val (.int p1), .val (.int p2), .val (.int p3), .val (.int p4), .val (.int p5), .val (.int p6), .val (.int (4 : Int32)), .val (.long la), .second, .val (.long lb), .second, .val (.long lc), .second, .val (.long ld), .second, .val (.long ld), .second, .val (.int x0), .val (.int x1), .val (.int x2), .val (.int x3), .val (.int m1), .val (.int m2), .val (.int m3), .val (.int q), .val (.ref b126), .val (.ref b128), .unset, .unset] []))
        refine own_go (fun t k => XS.aload X138.here hx rfl (hb hby at_318) rfl rfl  k) ?_
        refine own_go (fun t k => XS.iconst X138.here hx rfl (hb hby at_320) k) ?_
        refine own_go (fun t k => XS.iconst X138.here hx rfl (hb hby at_321) k) ?_
        refine own_iastore X138 hx hZ e138 V138 (j := (1 : Int32)) ⟨by decide, by decide⟩ 1 rfl (Nat.le_of_ble_eq_true rfl) (g := (mkF m 322 #[.val (.int p1), .val (.int p2), .val (.int p3), .val (.int p4), .val (.int p5), .val (.int p6), .val (.int (4 : Int32)), .val (.long la), .second, .val (.long lb), .second, .val (.long lc), .second, .val (.long ld), .second, .val (.long ld), .second, .val (.int x0), .val (.int x1), .val (.int x2), .val (.int x3), .val (.int m1), .val (.int m2), .val (.int m3), .val (.int q), .val (.ref b126), .val (.ref b128), .unset, .unset] [(.int (1 : Int32)), (.int (1 : Int32)), (.ref b128)])) rfl rfl (hb hby at_322) (fun T139 h139 X139 e139 W139 V139 => ?_)
        replace V139 : Arv Z h139 b128 k128 .int (5 : Int32) [(.int (1 : Int32)), (.int (1 : Int32)), (.int (0 : Int32)), (.int (0 : Int32)), (.int (0 : Int32))] (.int (0 : Int32)) := V139
        have N139 := Fr.snoc X139 N138 (Nat.le_trans F129 (Nat.le_of_eq g128.symm))
        refine own_go (fun t k => XS.aload X139.here hx rfl (hb hby at_323) rfl rfl  k) ?_
        show own_Run p e below Φ (T139.setTop (mkF m 325 #[.val (.int p1), .val (.int p2), .val (.int p3), .val (.int p4), .val (.int p5), .val (.int p6), .val (.int (4 : Int32)), .val (.long la), .second, .val (.long lb), .second, .val (.long lc), .second, .val (.long ld), .second, .val (.long ld), .second, .val (.int x0), .val (.int x1), .val (.int x2), .val (.int x3), .val (.int m1), .val (.int m2), .val (.int m3), .val (.int q), .val (.ref b126), .val (.ref b128), .unset, .unset] [(.ref b128)]))
        refine own_go (fun t k => XS.iconst X139.here hx rfl (hb hby at_325) k) ?_
        refine own_go (fun t k => XS.iconst X139.here hx rfl (hb hby at_326) k) ?_
        refine own_iastore X139 hx hZ e139 V139 (j := (2 : Int32)) ⟨by decide, by decide⟩ 2 rfl (Nat.le_of_ble_eq_true rfl) (g := (mkF m 327 #[.val (.int p1), .val (.int p2), .val (.int p3), .val (.int p4), .val (.int p5), .val (.int p6), .val (.int (4 : Int32)), .val (.long la), .second, .val (.long lb), .second, .val (.long lc), .second, .val (.long ld), .second, .val (.long ld), .second, .val (.int x0), .val (.int x1), .val (.int x2), .val (.int x3), .val (.int m1), .val (.int m2), .val (.int m3), .val (.int q), .val (.ref b126), .val (.ref b128), .unset, .unset] [(.int (1 : Int32)), (.int (2 : Int32)), (.ref b128)])) rfl rfl (hb hby at_327) (fun T140 h140 X140 e140 W140 V140 => ?_)
        replace V140 : Arv Z h140 b128 k128 .int (5 : Int32) [(.int (1 : Int32)), (.int (1 : Int32)), (.int (1 : Int32)), (.int (0 : Int32)), (.int (0 : Int32))] (.int (0 : Int32)) := V140
        have N140 := Fr.snoc X140 N139 (Nat.le_trans F129 (Nat.le_of_eq g128.symm))
        refine own_go (fun t k => XS.aload X140.here hx rfl (hb hby at_328) rfl rfl  k) ?_
        refine own_go (fun t k => XS.iconst X140.here hx rfl (hb hby at_330) k) ?_
        show own_Run p e below Φ (T140.setTop (mkF m 331 #[.val (.int p1), .val (.int p2), .val (.int p3), .val (.int p4), .val (.int p5), .val (.int p6), .val (.int (4 : Int32)), .val (.long la), .second, .val (.long lb), .second, .val (.long lc), .second, .val (.long ld), .second, .val (.long ld), .second, .val (.int x0), .val (.int x1), .val (.int x2), .val (.int x3), .val (.int m1), .val (.int m2), .val (.int m3), .val (.int q), .val (.ref b126), .val (.ref b128), .unset, .unset] [(.int (3 : Int32)), (.ref b128)]))
        refine own_go (fun t k => XS.iconst X140.here hx rfl (hb hby at_331) k) ?_
        refine own_iastore X140 hx hZ e140 V140 (j := (3 : Int32)) ⟨by decide, by decide⟩ 3 rfl (Nat.le_of_ble_eq_true rfl) (g := (mkF m 332 #[.val (.int p1), .val (.int p2), .val (.int p3), .val (.int p4), .val (.int p5), .val (.int p6), .val (.int (4 : Int32)), .val (.long la), .second, .val (.long lb), .second, .val (.long lc), .second, .val (.long ld), .second, .val (.long ld), .second, .val (.int x0), .val (.int x1), .val (.int x2), .val (.int x3), .val (.int m1), .val (.int m2), .val (.int m3), .val (.int q), .val (.ref b126), .val (.ref b128), .unset, .unset] [(.int (1 : Int32)), (.int (3 : Int32)), (.ref b128)])) rfl rfl (hb hby at_332) (fun T141 h141 X141 e141 W141 V141 => ?_)
        replace V141 : Arv Z h141 b128 k128 .int (5 : Int32) [(.int (1 : Int32)), (.int (1 : Int32)), (.int (1 : Int32)), (.int (1 : Int32)), (.int (0 : Int32))] (.int (0 : Int32)) := V141
        have N141 := Fr.snoc X141 N140 (Nat.le_trans F129 (Nat.le_of_eq g128.symm))
        refine own_go (fun t k => XS.aload X141.here hx rfl (hb hby at_333) rfl rfl  k) ?_
        refine own_go (fun t k => XS.iconst X141.here hx rfl (hb hby at_335) k) ?_
        refine own_go (fun t k => XS.iconst X141.here hx rfl (hb hby at_336) k) ?_
        show own_Run p e below Φ (T141.setTop (mkF m 337 #[.val (.int p1), .val (.int p2), .val (.int p3), .val (.int p4), .val (.int p5), .val (.int p6), .val (.int (4 : Int32)), .val (.long la), .second, .val (.long lb), .second, .val (.long lc), .second, .val (.long ld), .second, .val (.long ld), .second, .val (.int x0), .val (.int x1), .val (.int x2), .val (.int x3), .val (.int m1), .val (.int m2), .val (.int m3), .val (.int q), .val (.ref b126), .val (.ref b128), .unset, .unset] [(.int (1 : Int32)), (.int (4 : Int32)), (.ref b128)]))
        refine own_iastore X141 hx hZ e141 V141 (j := (4 : Int32)) ⟨by decide, by decide⟩ 4 rfl (Nat.le_of_ble_eq_true rfl) (g := (mkF m 337 #[.val (.int p1), .val (.int p2), .val (.int p3), .val (.int p4), .val (.int p5), .val (.int p6), .val (.int (4 : Int32)), .val (.long la), .second, .val (.long lb), .second, .val (.long lc), .second, .val (.long ld), .second, .val (.long ld), .second, .val (.int x0), .val (.int x1), .val (.int x2), .val (.int x3), .val (.int m1), .val (.int m2), .val (.int m3), .val (.int q), .val (.ref b126), .val (.ref b128), .unset, .unset] [(.int (1 : Int32)), (.int (4 : Int32)), (.ref b128)])) rfl rfl (hb hby at_337) (fun T142 h142 X142 e142 W142 V142 => ?_)
        replace V142 : Arv Z h142 b128 k128 .int (5 : Int32) [(.int (1 : Int32)), (.int (1 : Int32)), (.int (1 : Int32)), (.int (1 : Int32)), (.int (1 : Int32))] (.int (0 : Int32)) := V142
        have N142 := Fr.snoc X142 N141 (Nat.le_trans F129 (Nat.le_of_eq g128.symm))
        have F144 : n0 ≤ h142.size := (Nat.le_trans (Nat.le_trans (Nat.le_trans (Nat.le_trans (Nat.le_trans (Nat.le_trans (Nat.le_trans (Nat.le_trans (Nat.le_trans (Nat.le_trans (Nat.le_trans F129 E128.1) (Keep.of_wr W132).1) (Keep.of_wr W133).1) (Keep.of_wr W134).1) (Keep.of_wr W135).1) (Keep.of_wr W136).1) (Keep.of_wr W138).1) (Keep.of_wr W139).1) (Keep.of_wr W140).1) (Keep.of_wr W141).1) (Keep.of_wr W142).1)
        have F145 : Arv Z h142 b126 k126 .int (5 : Int32) [(.int x0), (.int x1), (.int x2), (.int x3), (.int q)] (.int (0 : Int32)) := (((((V136.other W138 ne_b126_b128).other W139 ne_b126_b128).other W140 ne_b126_b128).other W141 ne_b126_b128).other W142 ne_b126_b128)
        obtain ⟨T143, h143, X143, e143, E143, A143, D143, -, st143⟩ := newO X142 hx hZ hown (hw _ (List.mem_of_getElem? (i := 2) rfl)) (hw _ (List.mem_of_getElem? (i := 3) rfl)) (hw _ (List.mem_of_getElem? (i := 4) rfl)) e142 (g := (mkF m 338 #[.val (.int p1), .val (.int p2), .val (.int p3), .val (.int p4), .val (.int p5), .val (.int p6), .val (.int (4 : Int32)), .val (.long la), .second, .val (.long lb), .second, .val (.long lc), .second, .val (.long ld), .second, .val (.long ld), .second, .val (.int x0), .val (.int x1), .val (.int x2), .val (.int x3), .val (.int m1), .val (.int m2), .val (.int m3), .val (.int q), .val (.ref b126), .val (.ref b128), .unset, .unset] [])) rfl (hb hby at_338) (by decide) (by decide)
        refine own_go st143 ?_
        obtain ⟨b143, g143⟩ : ∃ z, z = h142.size := ⟨_, rfl⟩
        rw [← g143] at A143 D143 ⊢
        have ne_b126_b143 : b126 ≠ b143 := Nat.ne_of_lt (Nat.lt_of_lt_of_le F145.lt (Nat.le_of_eq g143.symm))
        have ne_b128_b143 : b128 ≠ b143 := Nat.ne_of_lt (Nat.lt_of_lt_of_le V142.lt (Nat.le_of_eq g143.symm))
        have G146 : Fld Z h143 b143 "com/example/glossyn/glossyn/index/Postings" "documents" "[I" .null := D143 (Or.inr (hw _ (List.mem_of_getElem? (i := 12) rfl))) (ty := (.array .int)) (by decide)
        have G147 : Fld Z h143 b143 "com/example/glossyn/glossyn/index/Postings" "frequencies" "[I" .null := D143 (Or.inr (hw _ (List.mem_of_getElem? (i := 14) rfl))) (ty := (.array .int)) (by decide)
        have G148 : Fld Z h143 b143 "com/example/glossyn/glossyn/index/Postings" "size" "I" (.int (0 : Int32)) := D143 (Or.inr (hw _ (List.mem_of_getElem? (i := 16) rfl))) (ty := .int) (by decide)
        refine own_go (fun t k => XS.dup X143.here hx rfl (hb hby at_341) rfl rfl k) ?_
        refine own_go (fun t k => XS.aload X143.here hx rfl (hb hby at_342) rfl rfl  k) ?_
        refine own_go (fun t k => XS.aload X143.here hx rfl (hb hby at_344) rfl rfl  k) ?_
        show own_Run p e below Φ (T143.setTop (mkF m 346 #[.val (.int p1), .val (.int p2), .val (.int p3), .val (.int p4), .val (.int p5), .val (.int p6), .val (.int (4 : Int32)), .val (.long la), .second, .val (.long lb), .second, .val (.long lc), .second, .val (.long ld), .second, .val (.long ld), .second, .val (.int x0), .val (.int x1), .val (.int x2), .val (.int x3), .val (.int m1), .val (.int m2), .val (.int m3), .val (.int q), .val (.ref b126), .val (.ref b128), .unset, .unset] [(.ref b128), (.ref b126), (.ref b143), (.ref b143)]))
        refine own_go (fun t k => XS.iload X143.here hx rfl (hb hby at_346) rfl  k) ?_
        refine own_callI X143 hx hZ (y := (⟨"com/example/glossyn/glossyn/index/Postings", "<init>", "([I[II)V"⟩ : MethodName)) (W := 1) (a := b143) (argsL := [(.ref b126), (.ref b128), (.int (4 : Int32))]) (rest := [(.ref b143)]) rfl hown (hw _ (List.mem_of_getElem? (i := 5) rfl)) (hw _ (List.mem_of_getElem? (i := 6) rfl)) (hw _ (List.mem_of_getElem? (i := 7) rfl)) (by decide) (own_bk (rm_ct l Z a0 hw b143 b126 b128 (4 : Int32) h143 n0 A143 G146 G147 G148 (Nat.le_trans F144 (Nat.le_of_eq g143.symm))) hZ (hw _ (List.mem_of_getElem? (i := 7) rfl)) (hw _ (List.mem_of_getElem? (i := 4) rfl)) (by decide) (by decide)) e143 (g := (mkF m 348 #[.val (.int p1), .val (.int p2), .val (.int p3), .val (.int p4), .val (.int p5), .val (.int p6), .val (.int (4 : Int32)), .val (.long la), .second, .val (.long lb), .second, .val (.long lc), .second, .val (.long ld), .second, .val (.long ld), .second, .val (.int x0), .val (.int x1), .val (.int x2), .val (.int x3), .val (.int m1), .val (.int m2), .val (.int m3), .val (.int q), .val (.ref b126), .val (.ref b128), .unset, .unset] [(.int (4 : Int32)), (.ref b128), (.ref b126), (.ref b143), (.ref b143)])) rfl (by rw [hml]; rfl) (lenOf pd_0 rfl) rfl (by show 2 * 0 + _ ≤ _; exact Nat.le_of_eq rfl) (hb hby at_348) (by decide) (by decide) (fun v149 T149 h149 L149 X149 e149 q149 => ?_)
        obtain ⟨rfl, M149, K149, P149_0, P149_1⟩ := q149
        have N149 := Fr.app N142 M149
        refine own_go (fun t k => XS.astore X149.here hx rfl (hb hby at_351) rfl rfl (l' := #[.val (.int p1), .val (.int p2), .val (.int p3), .val (.int p4), .val (.int p5), .val (.int p6), .val (.int (4 : Int32)), .val (.long la), .second, .val (.long lb), .second, .val (.long lc), .second, .val (.long ld), .second, .val (.long ld), .second, .val (.int x0), .val (.int x1), .val (.int x2), .val (.int x3), .val (.int m1), .val (.int m2), .val (.int m3), .val (.int q), .val (.ref b126), .val (.ref b128), .val (.ref b143), .unset]) rfl k) ?_
        show own_Run p e below Φ (T149.setTop (mkF m 353 #[.val (.int p1), .val (.int p2), .val (.int p3), .val (.int p4), .val (.int p5), .val (.int p6), .val (.int (4 : Int32)), .val (.long la), .second, .val (.long lb), .second, .val (.long lc), .second, .val (.long ld), .second, .val (.long ld), .second, .val (.int x0), .val (.int x1), .val (.int x2), .val (.int x3), .val (.int m1), .val (.int m2), .val (.int m3), .val (.int q), .val (.ref b126), .val (.ref b128), .val (.ref b143), .unset] []))
        have J409_150 : ∀ (y : Int32), (own_y4 x0 x1 x2 x3 q = y) → own_Run p e below Φ (T149.setTop (mkF m 409 #[.val (.int p1), .val (.int p2), .val (.int p3), .val (.int p4), .val (.int p5), .val (.int p6), .val (.int (4 : Int32)), .val (.long la), .second, .val (.long lb), .second, .val (.long lc), .second, .val (.long ld), .second, .val (.long ld), .second, .val (.int x0), .val (.int x1), .val (.int x2), .val (.int x3), .val (.int m1), .val (.int m2), .val (.int m3), .val (.int q), .val (.ref b126), .val (.ref b128), .val (.ref b143), .unset] [(.int y)])) := by
          intro y hy
          show own_Run p e below Φ (T149.setTop (mkF m 409 #[.val (.int p1), .val (.int p2), .val (.int p3), .val (.int p4), .val (.int p5), .val (.int p6), .val (.int (4 : Int32)), .val (.long la), .second, .val (.long lb), .second, .val (.long lc), .second, .val (.long ld), .second, .val (.long ld), .second, .val (.int x0), .val (.int x1), .val (.int x2), .val (.int x3), .val (.int m1), .val (.int m2), .val (.int m3), .val (.int q), .val (.ref b126), .val (.ref b128), .val (.ref b143), .unset] [(.int y)]))
          refine own_go (fun t k => XS.istore X149.here hx rfl (hb hby at_409) rfl (l' := #[.val (.int p1), .val (.int p2), .val (.int p3), .val (.int p4), .val (.int p5), .val (.int p6), .val (.int (4 : Int32)), .val (.long la), .second, .val (.long lb), .second, .val (.long lc), .second, .val (.long ld), .second, .val (.long ld), .second, .val (.int x0), .val (.int x1), .val (.int x2), .val (.int x3), .val (.int m1), .val (.int m2), .val (.int m3), .val (.int q), .val (.ref b126), .val (.ref b128), .val (.ref b143), .val (.int y)]) rfl k) ?_
          refine own_go (fun t k => XS.aload X149.here hx rfl (hb hby at_411) rfl rfl  k) ?_
          refine own_go (fun t k => XS.iload X149.here hx rfl (hb hby at_413) rfl  k) ?_
          have F151 : Arv Z h149 b126 k126 .int (5 : Int32) [(.int x0), (.int x1), (.int x2), (.int x3), (.int q)] (.int (0 : Int32)) := ((F145.ext E143).keep K149 (ninS ne_b126_b143 nin0))
          have F153 : Exa Z h149 b143 "com/example/glossyn/glossyn/index/Postings" := (A143.keep K149)
          refine own_callV X149 hx hZ (y := (⟨"com/example/glossyn/glossyn/index/Postings", "contains", "(I)Z"⟩ : MethodName)) (z := (⟨"com/example/glossyn/glossyn/index/Postings", "contains", "(I)Z"⟩ : MethodName)) (W := 0) (a := b143) (argsL := [(.int q)]) (rest := []) hown (hw _ (List.mem_of_getElem? (i := 17) rfl)) (hw _ (List.mem_of_getElem? (i := 18) rfl)) (notFace_of_selects (args := #[]) (mvT hZ (hw _ (List.mem_of_getElem? (i := 20) rfl)))) (hw _ (List.mem_of_getElem? (i := 20) rfl)) (hw _ (List.mem_of_getElem? (i := 19) rfl)) (by decide) (own_bk (rm_cn4 l Z a0 hw b143 q b126 k126 x0 x1 x2 x3 q h149 n0 P149_0 P149_1 F151 (by omega) (by omega) (by omega)) hZ (hw _ (List.mem_of_getElem? (i := 21) rfl)) (hw _ (List.mem_of_getElem? (i := 4) rfl)) (by decide) (by decide)) e149 F153 (g := (mkF m 415 #[.val (.int p1), .val (.int p2), .val (.int p3), .val (.int p4), .val (.int p5), .val (.int p6), .val (.int (4 : Int32)), .val (.long la), .second, .val (.long lb), .second, .val (.long lc), .second, .val (.long ld), .second, .val (.long ld), .second, .val (.int x0), .val (.int x1), .val (.int x2), .val (.int x3), .val (.int m1), .val (.int m2), .val (.int m3), .val (.int q), .val (.ref b126), .val (.ref b128), .val (.ref b143), .val (.int y)] [(.int q), (.ref b143)])) rfl (by rw [hml]; rfl) (lenOf pd_2 rfl) rfl (by show 2 * 0 + _ ≤ _; exact Nat.le_of_eq rfl) (hb hby at_415) (by decide) (by decide) (fun v152 T152 h152 L152 X152 e152 q152 => ?_)
          obtain ⟨rfl, M152, s152⟩ := q152
          replace e152 : T152.heap = h149 := e152.trans s152
          have N152 := Fr.app N149 M152
          refine own_go (fun t k => XS.iload X152.here hx rfl (hb hby at_418) rfl  k) ?_
          show own_Run p e below Φ (T152.setTop (mkF m 420 #[.val (.int p1), .val (.int p2), .val (.int p3), .val (.int p4), .val (.int p5), .val (.int p6), .val (.int (4 : Int32)), .val (.long la), .second, .val (.long lb), .second, .val (.long lc), .second, .val (.long ld), .second, .val (.long ld), .second, .val (.int x0), .val (.int x1), .val (.int x2), .val (.int x3), .val (.int m1), .val (.int m2), .val (.int m3), .val (.int q), .val (.ref b126), .val (.ref b128), .val (.ref b143), .val (.int y)] [(.int y), (.int (own_y4 x0 x1 x2 x3 q))]))
          have hc420 : (own_y4 x0 x1 x2 x3 q) = y := hy
          refine own_go (fun t k => XS.icmpNo X152.here hx rfl (hb hby at_420) rfl (teq hc420).2 k) ?_
          refine own_go (fun t k => XS.iconst X152.here hx rfl (hb hby at_423) k) ?_
          refine own_go (fun t k => XS.goto X152.here hx rfl (pc0 := 424) (pc' := 428) rfl (hb hby at_424) (by decide) (by decide) k) ?_
          subst hΦ
          exact own_retN X152 hx (t := .boolean) Bd.returns (by simp) hlk (hb hby at_428) e152 ⟨rfl, N152⟩ (by decide) (by decide)
        show own_Run p e below Φ (T149.setTop (mkF m 353 #[.val (.int p1), .val (.int p2), .val (.int p3), .val (.int p4), .val (.int p5), .val (.int p6), .val (.int (4 : Int32)), .val (.long la), .second, .val (.long lb), .second, .val (.long lc), .second, .val (.long ld), .second, .val (.long ld), .second, .val (.int x0), .val (.int x1), .val (.int x2), .val (.int x3), .val (.int m1), .val (.int m2), .val (.int m3), .val (.int q), .val (.ref b126), .val (.ref b128), .val (.ref b143), .unset] []))
        refine own_go (fun t k => XS.iload X149.here hx rfl (hb hby at_353) rfl  k) ?_
        refine own_go (fun t k => XS.ifNo X149.here hx rfl (hb hby at_355) rfl ((if0 _ _).trans (tlt (by decide : (0 : Int32) < (4 : Int32))).2.2.2) k) ?_
        show own_Run p e below Φ (T149.setTop (mkF m 358 #[.val (.int p1), .val (.int p2), .val (.int p3), .val (.int p4), .val (.int p5), .val (.int p6), .val (.int (4 : Int32)), .val (.long la), .second, .val (.long lb), .second, .val (.long lc), .second, .val (.long ld), .second, .val (.long ld), .second, .val (.int x0), .val (.int x1), .val (.int x2), .val (.int x3), .val (.int m1), .val (.int m2), .val (.int m3), .val (.int q), .val (.ref b126), .val (.ref b128), .val (.ref b143), .unset] []))
        refine own_go (fun t k => XS.iload X149.here hx rfl (hb hby at_358) rfl  k) ?_
        refine own_go (fun t k => XS.iload X149.here hx rfl (hb hby at_360) rfl  k) ?_
        by_cases hc362 : q = x0
        · refine own_go (fun t k => XS.icmpYes X149.here hx rfl (pc0 := 362) (pc' := 404) rfl (hb hby at_362) rfl (teq hc362).1 (by decide) (by decide) k) ?_
          refine own_go (fun t k => XS.iconst X149.here hx rfl (hb hby at_404) k) ?_
          refine own_go (fun t k => XS.goto X149.here hx rfl (pc0 := 405) (pc' := 409) rfl (hb hby at_405) (by decide) (by decide) k) ?_
          exact J409_150 (1 : Int32) (by unfold own_y4; rw [if_pos hc362])
        · refine own_go (fun t k => XS.icmpNo X149.here hx rfl (hb hby at_362) rfl (feq hc362).1 k) ?_
          show own_Run p e below Φ (T149.setTop (mkF m 365 #[.val (.int p1), .val (.int p2), .val (.int p3), .val (.int p4), .val (.int p5), .val (.int p6), .val (.int (4 : Int32)), .val (.long la), .second, .val (.long lb), .second, .val (.long lc), .second, .val (.long ld), .second, .val (.long ld), .second, .val (.int x0), .val (.int x1), .val (.int x2), .val (.int x3), .val (.int m1), .val (.int m2), .val (.int m3), .val (.int q), .val (.ref b126), .val (.ref b128), .val (.ref b143), .unset] []))
          refine own_go (fun t k => XS.iload X149.here hx rfl (hb hby at_365) rfl  k) ?_
          refine own_go (fun t k => XS.iconst X149.here hx rfl (hb hby at_367) k) ?_
          refine own_go (fun t k => XS.icmpNo X149.here hx rfl (hb hby at_368) rfl (tlt (by decide : (1 : Int32) < (4 : Int32))).2.2.2 k) ?_
          refine own_go (fun t k => XS.iload X149.here hx rfl (hb hby at_371) rfl  k) ?_
          refine own_go (fun t k => XS.iload X149.here hx rfl (hb hby at_373) rfl  k) ?_
          show own_Run p e below Φ (T149.setTop (mkF m 375 #[.val (.int p1), .val (.int p2), .val (.int p3), .val (.int p4), .val (.int p5), .val (.int p6), .val (.int (4 : Int32)), .val (.long la), .second, .val (.long lb), .second, .val (.long lc), .second, .val (.long ld), .second, .val (.long ld), .second, .val (.int x0), .val (.int x1), .val (.int x2), .val (.int x3), .val (.int m1), .val (.int m2), .val (.int m3), .val (.int q), .val (.ref b126), .val (.ref b128), .val (.ref b143), .unset] [(.int x1), (.int q)]))
          by_cases hc375 : q = x1
          · refine own_go (fun t k => XS.icmpYes X149.here hx rfl (pc0 := 375) (pc' := 404) rfl (hb hby at_375) rfl (teq hc375).1 (by decide) (by decide) k) ?_
            refine own_go (fun t k => XS.iconst X149.here hx rfl (hb hby at_404) k) ?_
            refine own_go (fun t k => XS.goto X149.here hx rfl (pc0 := 405) (pc' := 409) rfl (hb hby at_405) (by decide) (by decide) k) ?_
            exact J409_150 (1 : Int32) (by unfold own_y4; rw [if_neg hc362, if_pos hc375])
          · refine own_go (fun t k => XS.icmpNo X149.here hx rfl (hb hby at_375) rfl (feq hc375).1 k) ?_
            refine own_go (fun t k => XS.iload X149.here hx rfl (hb hby at_378) rfl  k) ?_
            refine own_go (fun t k => XS.iconst X149.here hx rfl (hb hby at_380) k) ?_
            show own_Run p e below Φ (T149.setTop (mkF m 381 #[.val (.int p1), .val (.int p2), .val (.int p3), .val (.int p4), .val (.int p5), .val (.int p6), .val (.int (4 : Int32)), .val (.long la), .second, .val (.long lb), .second, .val (.long lc), .second, .val (.long ld), .second, .val (.long ld), .second, .val (.int x0), .val (.int x1), .val (.int x2), .val (.int x3), .val (.int m1), .val (.int m2), .val (.int m3), .val (.int q), .val (.ref b126), .val (.ref b128), .val (.ref b143), .unset] [(.int (2 : Int32)), (.int (4 : Int32))]))
            refine own_go (fun t k => XS.icmpNo X149.here hx rfl (hb hby at_381) rfl (tlt (by decide : (2 : Int32) < (4 : Int32))).2.2.2 k) ?_
            refine own_go (fun t k => XS.iload X149.here hx rfl (hb hby at_384) rfl  k) ?_
            refine own_go (fun t k => XS.iload X149.here hx rfl (hb hby at_386) rfl  k) ?_
            by_cases hc388 : q = x2
            · refine own_go (fun t k => XS.icmpYes X149.here hx rfl (pc0 := 388) (pc' := 404) rfl (hb hby at_388) rfl (teq hc388).1 (by decide) (by decide) k) ?_
              refine own_go (fun t k => XS.iconst X149.here hx rfl (hb hby at_404) k) ?_
              show own_Run p e below Φ (T149.setTop (mkF m 405 #[.val (.int p1), .val (.int p2), .val (.int p3), .val (.int p4), .val (.int p5), .val (.int p6), .val (.int (4 : Int32)), .val (.long la), .second, .val (.long lb), .second, .val (.long lc), .second, .val (.long ld), .second, .val (.long ld), .second, .val (.int x0), .val (.int x1), .val (.int x2), .val (.int x3), .val (.int m1), .val (.int m2), .val (.int m3), .val (.int q), .val (.ref b126), .val (.ref b128), .val (.ref b143), .unset] [(.int (1 : Int32))]))
              refine own_go (fun t k => XS.goto X149.here hx rfl (pc0 := 405) (pc' := 409) rfl (hb hby at_405) (by decide) (by decide) k) ?_
              exact J409_150 (1 : Int32) (by unfold own_y4; rw [if_neg hc362, if_neg hc375, if_pos hc388])
            · refine own_go (fun t k => XS.icmpNo X149.here hx rfl (hb hby at_388) rfl (feq hc388).1 k) ?_
              refine own_go (fun t k => XS.iload X149.here hx rfl (hb hby at_391) rfl  k) ?_
              refine own_go (fun t k => XS.iconst X149.here hx rfl (hb hby at_393) k) ?_
              refine own_go (fun t k => XS.icmpNo X149.here hx rfl (hb hby at_394) rfl (tlt (by decide : (3 : Int32) < (4 : Int32))).2.2.2 k) ?_
              refine own_go (fun t k => XS.iload X149.here hx rfl (hb hby at_397) rfl  k) ?_
              show own_Run p e below Φ (T149.setTop (mkF m 399 #[.val (.int p1), .val (.int p2), .val (.int p3), .val (.int p4), .val (.int p5), .val (.int p6), .val (.int (4 : Int32)), .val (.long la), .second, .val (.long lb), .second, .val (.long lc), .second, .val (.long ld), .second, .val (.long ld), .second, .val (.int x0), .val (.int x1), .val (.int x2), .val (.int x3), .val (.int m1), .val (.int m2), .val (.int m3), .val (.int q), .val (.ref b126), .val (.ref b128), .val (.ref b143), .unset] [(.int q)]))
              refine own_go (fun t k => XS.iload X149.here hx rfl (hb hby at_399) rfl  k) ?_
              by_cases hc401 : q = x3
              · refine own_go (fun t k => XS.icmpNo X149.here hx rfl (hb hby at_401) rfl (teq hc401).2 k) ?_
                refine own_go (fun t k => XS.iconst X149.here hx rfl (hb hby at_404) k) ?_
                refine own_go (fun t k => XS.goto X149.here hx rfl (pc0 := 405) (pc' := 409) rfl (hb hby at_405) (by decide) (by decide) k) ?_
                exact J409_150 (1 : Int32) (by unfold own_y4; rw [if_neg hc362, if_neg hc375, if_neg hc388, if_pos hc401])
              · refine own_go (fun t k => XS.icmpYes X149.here hx rfl (pc0 := 401) (pc' := 408) rfl (hb hby at_401) rfl (feq hc401).2 (by decide) (by decide) k) ?_
                refine own_go (fun t k => XS.iconst X149.here hx rfl (hb hby at_408) k) ?_
                exact J409_150 (0 : Int32) (by unfold own_y4; rw [if_neg hc362, if_neg hc375, if_neg hc388, if_neg hc401])
      show own_Run p e below Φ (s₁.setTop (mkF m 112 #[.val (.int p1), .val (.int p2), .val (.int p3), .val (.int p4), .val (.int p5), .val (.int p6), .val (.int (4 : Int32)), .val (.long la), .second, .val (.long lb), .second, .val (.long lc), .second, .val (.long ld), .second, .val (.long ld), .second, .val (.int x0), .val (.int x1), .val (.int x2), .val (.int x3), .unset, .unset, .unset, .unset, .unset, .unset, .unset, .unset] []))
      refine own_go (fun t k => XS.iload X0.here hx rfl (hb hby at_112) rfl  k) ?_
      show own_Run p e below Φ (s₁.setTop (mkF m 114 #[.val (.int p1), .val (.int p2), .val (.int p3), .val (.int p4), .val (.int p5), .val (.int p6), .val (.int (4 : Int32)), .val (.long la), .second, .val (.long lb), .second, .val (.long lc), .second, .val (.long ld), .second, .val (.long ld), .second, .val (.int x0), .val (.int x1), .val (.int x2), .val (.int x3), .unset, .unset, .unset, .unset, .unset, .unset, .unset, .unset] [(.int p5)]))
      refine own_go (fun t k => XS.bipush X0.here hx rfl (hb hby at_114) k) ?_
      refine own_go (fun t k => XS.iushr X0.here hx rfl (hb hby at_116) rfl k) ?_
      refine own_go (fun t k => XS.iconst X0.here hx rfl (hb hby at_117) k) ?_
      refine own_go (fun t k => XS.iand X0.here hx rfl (hb hby at_118) rfl k) ?_
      refine own_go (fun t k => XS.istore X0.here hx rfl (hb hby at_119) rfl (l' := #[.val (.int p1), .val (.int p2), .val (.int p3), .val (.int p4), .val (.int p5), .val (.int p6), .val (.int (4 : Int32)), .val (.long la), .second, .val (.long lb), .second, .val (.long lc), .second, .val (.long ld), .second, .val (.long ld), .second, .val (.int x0), .val (.int x1), .val (.int x2), .val (.int x3), .val (.int (((p5.toUInt32 >>> ((11 : Int32) &&& 31).toUInt32).toInt32) &&& (3 : Int32))), .unset, .unset, .unset, .unset, .unset, .unset, .unset]) rfl k) ?_
      show own_Run p e below Φ (s₁.setTop (mkF m 121 #[.val (.int p1), .val (.int p2), .val (.int p3), .val (.int p4), .val (.int p5), .val (.int p6), .val (.int (4 : Int32)), .val (.long la), .second, .val (.long lb), .second, .val (.long lc), .second, .val (.long ld), .second, .val (.long ld), .second, .val (.int x0), .val (.int x1), .val (.int x2), .val (.int x3), .val (.int (((p5.toUInt32 >>> ((11 : Int32) &&& 31).toUInt32).toInt32) &&& (3 : Int32))), .unset, .unset, .unset, .unset, .unset, .unset, .unset] []))
      have J141_154 : ∀ (kk : Int32), own_Run p e below Φ (s₁.setTop (mkF m 141 #[.val (.int p1), .val (.int p2), .val (.int p3), .val (.int p4), .val (.int p5), .val (.int p6), .val (.int (4 : Int32)), .val (.long la), .second, .val (.long lb), .second, .val (.long lc), .second, .val (.long ld), .second, .val (.long ld), .second, .val (.int x0), .val (.int x1), .val (.int x2), .val (.int x3), .val (.int (((p5.toUInt32 >>> ((11 : Int32) &&& 31).toUInt32).toInt32) &&& (3 : Int32))), .unset, .unset, .unset, .unset, .unset, .unset, .unset] [(.int kk)])) := by
        intro kk
        show own_Run p e below Φ (s₁.setTop (mkF m 141 #[.val (.int p1), .val (.int p2), .val (.int p3), .val (.int p4), .val (.int p5), .val (.int p6), .val (.int (4 : Int32)), .val (.long la), .second, .val (.long lb), .second, .val (.long lc), .second, .val (.long ld), .second, .val (.long ld), .second, .val (.int x0), .val (.int x1), .val (.int x2), .val (.int x3), .val (.int (((p5.toUInt32 >>> ((11 : Int32) &&& 31).toUInt32).toInt32) &&& (3 : Int32))), .unset, .unset, .unset, .unset, .unset, .unset, .unset] [(.int kk)]))
        refine own_go (fun t k => XS.istore X0.here hx rfl (hb hby at_141) rfl (l' := #[.val (.int p1), .val (.int p2), .val (.int p3), .val (.int p4), .val (.int p5), .val (.int p6), .val (.int (4 : Int32)), .val (.long la), .second, .val (.long lb), .second, .val (.long lc), .second, .val (.long ld), .second, .val (.long ld), .second, .val (.int x0), .val (.int x1), .val (.int x2), .val (.int x3), .val (.int (((p5.toUInt32 >>> ((11 : Int32) &&& 31).toUInt32).toInt32) &&& (3 : Int32))), .val (.int kk), .unset, .unset, .unset, .unset, .unset, .unset]) rfl k) ?_
        show own_Run p e below Φ (s₁.setTop (mkF m 143 #[.val (.int p1), .val (.int p2), .val (.int p3), .val (.int p4), .val (.int p5), .val (.int p6), .val (.int (4 : Int32)), .val (.long la), .second, .val (.long lb), .second, .val (.long lc), .second, .val (.long ld), .second, .val (.long ld), .second, .val (.int x0), .val (.int x1), .val (.int x2), .val (.int x3), .val (.int (((p5.toUInt32 >>> ((11 : Int32) &&& 31).toUInt32).toInt32) &&& (3 : Int32))), .val (.int kk), .unset, .unset, .unset, .unset, .unset, .unset] []))
        have J177_155 : ∀ (pk : Int32), own_Run p e below Φ (s₁.setTop (mkF m 177 #[.val (.int p1), .val (.int p2), .val (.int p3), .val (.int p4), .val (.int p5), .val (.int p6), .val (.int (4 : Int32)), .val (.long la), .second, .val (.long lb), .second, .val (.long lc), .second, .val (.long ld), .second, .val (.long ld), .second, .val (.int x0), .val (.int x1), .val (.int x2), .val (.int x3), .val (.int (((p5.toUInt32 >>> ((11 : Int32) &&& 31).toUInt32).toInt32) &&& (3 : Int32))), .val (.int kk), .unset, .unset, .unset, .unset, .unset, .unset] [(.int pk)])) := by
          intro pk
          show own_Run p e below Φ (s₁.setTop (mkF m 177 #[.val (.int p1), .val (.int p2), .val (.int p3), .val (.int p4), .val (.int p5), .val (.int p6), .val (.int (4 : Int32)), .val (.long la), .second, .val (.long lb), .second, .val (.long lc), .second, .val (.long ld), .second, .val (.long ld), .second, .val (.int x0), .val (.int x1), .val (.int x2), .val (.int x3), .val (.int (((p5.toUInt32 >>> ((11 : Int32) &&& 31).toUInt32).toInt32) &&& (3 : Int32))), .val (.int kk), .unset, .unset, .unset, .unset, .unset, .unset] [(.int pk)]))
          refine own_go (fun t k => XS.istore X0.here hx rfl (hb hby at_177) rfl (l' := #[.val (.int p1), .val (.int p2), .val (.int p3), .val (.int p4), .val (.int p5), .val (.int p6), .val (.int (4 : Int32)), .val (.long la), .second, .val (.long lb), .second, .val (.long lc), .second, .val (.long ld), .second, .val (.long ld), .second, .val (.int x0), .val (.int x1), .val (.int x2), .val (.int x3), .val (.int (((p5.toUInt32 >>> ((11 : Int32) &&& 31).toUInt32).toInt32) &&& (3 : Int32))), .val (.int kk), .val (.int pk), .unset, .unset, .unset, .unset, .unset]) rfl k) ?_
          refine own_go (fun t k => XS.iload X0.here hx rfl (hb hby at_179) rfl  k) ?_
          refine own_go (fun t k => XS.ifNo X0.here hx rfl (hb hby at_181) rfl ((if0 _ _).trans (feq (by decide : ¬ ((4 : Int32) = (0 : Int32)))).1) k) ?_
          refine own_go (fun t k => XS.iload X0.here hx rfl (hb hby at_184) rfl  k) ?_
          by_cases hc186 : (((p5.toUInt32 >>> ((11 : Int32) &&& 31).toUInt32).toInt32) &&& (3 : Int32)) = (0 : Int32)
          · refine own_go (fun t k => XS.ifNo X0.here hx rfl (hb hby at_186) rfl ((if0 _ _).trans (teq hc186).2) k) ?_
            show own_Run p e below Φ (s₁.setTop (mkF m 189 #[.val (.int p1), .val (.int p2), .val (.int p3), .val (.int p4), .val (.int p5), .val (.int p6), .val (.int (4 : Int32)), .val (.long la), .second, .val (.long lb), .second, .val (.long lc), .second, .val (.long ld), .second, .val (.long ld), .second, .val (.int x0), .val (.int x1), .val (.int x2), .val (.int x3), .val (.int (((p5.toUInt32 >>> ((11 : Int32) &&& 31).toUInt32).toInt32) &&& (3 : Int32))), .val (.int kk), .val (.int pk), .unset, .unset, .unset, .unset, .unset] []))
            refine own_go (fun t k => XS.iload X0.here hx rfl (hb hby at_189) rfl  k) ?_
            refine own_go (fun t k => XS.istore X0.here hx rfl (hb hby at_191) rfl (l' := #[.val (.int p1), .val (.int p2), .val (.int p3), .val (.int p4), .val (.int p5), .val (.int p6), .val (.int (4 : Int32)), .val (.long la), .second, .val (.long lb), .second, .val (.long lc), .second, .val (.long ld), .second, .val (.long ld), .second, .val (.int x0), .val (.int x1), .val (.int x2), .val (.int x3), .val (.int (((p5.toUInt32 >>> ((11 : Int32) &&& 31).toUInt32).toInt32) &&& (3 : Int32))), .val (.int kk), .val (.int pk), .val (.int p6), .unset, .unset, .unset, .unset]) rfl k) ?_
            refine own_go (fun t k => XS.goto X0.here hx rfl (pc0 := 193) (pc' := 230) rfl (hb hby at_193) (by decide) (by decide) k) ?_
            exact J230_125 p6 (((p5.toUInt32 >>> ((11 : Int32) &&& 31).toUInt32).toInt32) &&& (3 : Int32)) kk pk
          · refine own_go (fun t k => XS.ifYes X0.here hx rfl (pc0 := 186) (pc' := 196) rfl (hb hby at_186) rfl ((if0 _ _).trans (feq hc186).2) (by decide) (by decide) k) ?_
            refine own_go (fun t k => XS.iload X0.here hx rfl (hb hby at_196) rfl  k) ?_
            refine own_go (fun t k => XS.iconst X0.here hx rfl (hb hby at_198) k) ?_
            show own_Run p e below Φ (s₁.setTop (mkF m 199 #[.val (.int p1), .val (.int p2), .val (.int p3), .val (.int p4), .val (.int p5), .val (.int p6), .val (.int (4 : Int32)), .val (.long la), .second, .val (.long lb), .second, .val (.long lc), .second, .val (.long ld), .second, .val (.long ld), .second, .val (.int x0), .val (.int x1), .val (.int x2), .val (.int x3), .val (.int (((p5.toUInt32 >>> ((11 : Int32) &&& 31).toUInt32).toInt32) &&& (3 : Int32))), .val (.int kk), .val (.int pk), .unset, .unset, .unset, .unset, .unset] [(.int (1 : Int32)), (.int (((p5.toUInt32 >>> ((11 : Int32) &&& 31).toUInt32).toInt32) &&& (3 : Int32)))]))
            by_cases hc199 : (((p5.toUInt32 >>> ((11 : Int32) &&& 31).toUInt32).toInt32) &&& (3 : Int32)) = (1 : Int32)
            · refine own_go (fun t k => XS.icmpNo X0.here hx rfl (hb hby at_199) rfl (teq hc199).2 k) ?_
              refine own_go (fun t k => XS.iload X0.here hx rfl (hb hby at_202) rfl  k) ?_
              refine own_go (fun t k => XS.istore X0.here hx rfl (hb hby at_204) rfl (l' := #[.val (.int p1), .val (.int p2), .val (.int p3), .val (.int p4), .val (.int p5), .val (.int p6), .val (.int (4 : Int32)), .val (.long la), .second, .val (.long lb), .second, .val (.long lc), .second, .val (.long ld), .second, .val (.long ld), .second, .val (.int x0), .val (.int x1), .val (.int x2), .val (.int x3), .val (.int (((p5.toUInt32 >>> ((11 : Int32) &&& 31).toUInt32).toInt32) &&& (3 : Int32))), .val (.int kk), .val (.int pk), .val (.int pk), .unset, .unset, .unset, .unset]) rfl k) ?_
              refine own_go (fun t k => XS.goto X0.here hx rfl (pc0 := 206) (pc' := 230) rfl (hb hby at_206) (by decide) (by decide) k) ?_
              exact J230_125 pk (((p5.toUInt32 >>> ((11 : Int32) &&& 31).toUInt32).toInt32) &&& (3 : Int32)) kk pk
            · refine own_go (fun t k => XS.icmpYes X0.here hx rfl (pc0 := 199) (pc' := 209) rfl (hb hby at_199) rfl (feq hc199).2 (by decide) (by decide) k) ?_
              refine own_go (fun t k => XS.iload X0.here hx rfl (hb hby at_209) rfl  k) ?_
              show own_Run p e below Φ (s₁.setTop (mkF m 211 #[.val (.int p1), .val (.int p2), .val (.int p3), .val (.int p4), .val (.int p5), .val (.int p6), .val (.int (4 : Int32)), .val (.long la), .second, .val (.long lb), .second, .val (.long lc), .second, .val (.long ld), .second, .val (.long ld), .second, .val (.int x0), .val (.int x1), .val (.int x2), .val (.int x3), .val (.int (((p5.toUInt32 >>> ((11 : Int32) &&& 31).toUInt32).toInt32) &&& (3 : Int32))), .val (.int kk), .val (.int pk), .unset, .unset, .unset, .unset, .unset] [(.int (((p5.toUInt32 >>> ((11 : Int32) &&& 31).toUInt32).toInt32) &&& (3 : Int32)))]))
              refine own_go (fun t k => XS.iconst X0.here hx rfl (hb hby at_211) k) ?_
              by_cases hc212 : (((p5.toUInt32 >>> ((11 : Int32) &&& 31).toUInt32).toInt32) &&& (3 : Int32)) = (2 : Int32)
              · refine own_go (fun t k => XS.icmpNo X0.here hx rfl (hb hby at_212) rfl (teq hc212).2 k) ?_
                refine own_go (fun t k => XS.iload X0.here hx rfl (hb hby at_215) rfl  k) ?_
                refine own_go (fun t k => XS.iconst X0.here hx rfl (hb hby at_217) k) ?_
                refine own_go (fun t k => XS.iadd X0.here hx rfl (hb hby at_218) rfl k) ?_
                show own_Run p e below Φ (s₁.setTop (mkF m 219 #[.val (.int p1), .val (.int p2), .val (.int p3), .val (.int p4), .val (.int p5), .val (.int p6), .val (.int (4 : Int32)), .val (.long la), .second, .val (.long lb), .second, .val (.long lc), .second, .val (.long ld), .second, .val (.long ld), .second, .val (.int x0), .val (.int x1), .val (.int x2), .val (.int x3), .val (.int (((p5.toUInt32 >>> ((11 : Int32) &&& 31).toUInt32).toInt32) &&& (3 : Int32))), .val (.int kk), .val (.int pk), .unset, .unset, .unset, .unset, .unset] [(.int (pk + (1 : Int32)))]))
                refine own_go (fun t k => XS.istore X0.here hx rfl (hb hby at_219) rfl (l' := #[.val (.int p1), .val (.int p2), .val (.int p3), .val (.int p4), .val (.int p5), .val (.int p6), .val (.int (4 : Int32)), .val (.long la), .second, .val (.long lb), .second, .val (.long lc), .second, .val (.long ld), .second, .val (.long ld), .second, .val (.int x0), .val (.int x1), .val (.int x2), .val (.int x3), .val (.int (((p5.toUInt32 >>> ((11 : Int32) &&& 31).toUInt32).toInt32) &&& (3 : Int32))), .val (.int kk), .val (.int pk), .val (.int (pk + (1 : Int32))), .unset, .unset, .unset, .unset]) rfl k) ?_
                refine own_go (fun t k => XS.goto X0.here hx rfl (pc0 := 221) (pc' := 230) rfl (hb hby at_221) (by decide) (by decide) k) ?_
                exact J230_125 (pk + (1 : Int32)) (((p5.toUInt32 >>> ((11 : Int32) &&& 31).toUInt32).toInt32) &&& (3 : Int32)) kk pk
              · refine own_go (fun t k => XS.icmpYes X0.here hx rfl (pc0 := 212) (pc' := 224) rfl (hb hby at_212) rfl (feq hc212).2 (by decide) (by decide) k) ?_
                refine own_go (fun t k => XS.iload X0.here hx rfl (hb hby at_224) rfl  k) ?_
                refine own_go (fun t k => XS.iconst X0.here hx rfl (hb hby at_226) k) ?_
                refine own_go (fun t k => XS.isub X0.here hx rfl (hb hby at_227) rfl k) ?_
                show own_Run p e below Φ (s₁.setTop (mkF m 228 #[.val (.int p1), .val (.int p2), .val (.int p3), .val (.int p4), .val (.int p5), .val (.int p6), .val (.int (4 : Int32)), .val (.long la), .second, .val (.long lb), .second, .val (.long lc), .second, .val (.long ld), .second, .val (.long ld), .second, .val (.int x0), .val (.int x1), .val (.int x2), .val (.int x3), .val (.int (((p5.toUInt32 >>> ((11 : Int32) &&& 31).toUInt32).toInt32) &&& (3 : Int32))), .val (.int kk), .val (.int pk), .unset, .unset, .unset, .unset, .unset] [(.int (pk - (1 : Int32)))]))
                refine own_go (fun t k => XS.istore X0.here hx rfl (hb hby at_228) rfl (l' := #[.val (.int p1), .val (.int p2), .val (.int p3), .val (.int p4), .val (.int p5), .val (.int p6), .val (.int (4 : Int32)), .val (.long la), .second, .val (.long lb), .second, .val (.long lc), .second, .val (.long ld), .second, .val (.long ld), .second, .val (.int x0), .val (.int x1), .val (.int x2), .val (.int x3), .val (.int (((p5.toUInt32 >>> ((11 : Int32) &&& 31).toUInt32).toInt32) &&& (3 : Int32))), .val (.int kk), .val (.int pk), .val (.int (pk - (1 : Int32))), .unset, .unset, .unset, .unset]) rfl k) ?_
                exact J230_125 (pk - (1 : Int32)) (((p5.toUInt32 >>> ((11 : Int32) &&& 31).toUInt32).toInt32) &&& (3 : Int32)) kk pk
        show own_Run p e below Φ (s₁.setTop (mkF m 143 #[.val (.int p1), .val (.int p2), .val (.int p3), .val (.int p4), .val (.int p5), .val (.int p6), .val (.int (4 : Int32)), .val (.long la), .second, .val (.long lb), .second, .val (.long lc), .second, .val (.long ld), .second, .val (.long ld), .second, .val (.int x0), .val (.int x1), .val (.int x2), .val (.int x3), .val (.int (((p5.toUInt32 >>> ((11 : Int32) &&& 31).toUInt32).toInt32) &&& (3 : Int32))), .val (.int kk), .unset, .unset, .unset, .unset, .unset, .unset] []))
        refine own_go (fun t k => XS.iload X0.here hx rfl (hb hby at_143) rfl  k) ?_
        by_cases hc145 : kk = (0 : Int32)
        · refine own_go (fun t k => XS.ifNo X0.here hx rfl (hb hby at_145) rfl ((if0 _ _).trans (teq hc145).2) k) ?_
          refine own_go (fun t k => XS.iload X0.here hx rfl (hb hby at_148) rfl  k) ?_
          refine own_go (fun t k => XS.goto X0.here hx rfl (pc0 := 150) (pc' := 177) rfl (hb hby at_150) (by decide) (by decide) k) ?_
          exact J177_155 x0
        · refine own_go (fun t k => XS.ifYes X0.here hx rfl (pc0 := 145) (pc' := 153) rfl (hb hby at_145) rfl ((if0 _ _).trans (feq hc145).2) (by decide) (by decide) k) ?_
          refine own_go (fun t k => XS.iload X0.here hx rfl (hb hby at_153) rfl  k) ?_
          show own_Run p e below Φ (s₁.setTop (mkF m 155 #[.val (.int p1), .val (.int p2), .val (.int p3), .val (.int p4), .val (.int p5), .val (.int p6), .val (.int (4 : Int32)), .val (.long la), .second, .val (.long lb), .second, .val (.long lc), .second, .val (.long ld), .second, .val (.long ld), .second, .val (.int x0), .val (.int x1), .val (.int x2), .val (.int x3), .val (.int (((p5.toUInt32 >>> ((11 : Int32) &&& 31).toUInt32).toInt32) &&& (3 : Int32))), .val (.int kk), .unset, .unset, .unset, .unset, .unset, .unset] [(.int kk)]))
          refine own_go (fun t k => XS.iconst X0.here hx rfl (hb hby at_155) k) ?_
          by_cases hc156 : kk = (1 : Int32)
          · refine own_go (fun t k => XS.icmpNo X0.here hx rfl (hb hby at_156) rfl (teq hc156).2 k) ?_
            refine own_go (fun t k => XS.iload X0.here hx rfl (hb hby at_159) rfl  k) ?_
            refine own_go (fun t k => XS.goto X0.here hx rfl (pc0 := 161) (pc' := 177) rfl (hb hby at_161) (by decide) (by decide) k) ?_
            exact J177_155 x1
          · refine own_go (fun t k => XS.icmpYes X0.here hx rfl (pc0 := 156) (pc' := 164) rfl (hb hby at_156) rfl (feq hc156).2 (by decide) (by decide) k) ?_
            refine own_go (fun t k => XS.iload X0.here hx rfl (hb hby at_164) rfl  k) ?_
            show own_Run p e below Φ (s₁.setTop (mkF m 166 #[.val (.int p1), .val (.int p2), .val (.int p3), .val (.int p4), .val (.int p5), .val (.int p6), .val (.int (4 : Int32)), .val (.long la), .second, .val (.long lb), .second, .val (.long lc), .second, .val (.long ld), .second, .val (.long ld), .second, .val (.int x0), .val (.int x1), .val (.int x2), .val (.int x3), .val (.int (((p5.toUInt32 >>> ((11 : Int32) &&& 31).toUInt32).toInt32) &&& (3 : Int32))), .val (.int kk), .unset, .unset, .unset, .unset, .unset, .unset] [(.int kk)]))
            refine own_go (fun t k => XS.iconst X0.here hx rfl (hb hby at_166) k) ?_
            by_cases hc167 : kk = (2 : Int32)
            · refine own_go (fun t k => XS.icmpNo X0.here hx rfl (hb hby at_167) rfl (teq hc167).2 k) ?_
              refine own_go (fun t k => XS.iload X0.here hx rfl (hb hby at_170) rfl  k) ?_
              refine own_go (fun t k => XS.goto X0.here hx rfl (pc0 := 172) (pc' := 177) rfl (hb hby at_172) (by decide) (by decide) k) ?_
              exact J177_155 x2
            · refine own_go (fun t k => XS.icmpYes X0.here hx rfl (pc0 := 167) (pc' := 175) rfl (hb hby at_167) rfl (feq hc167).2 (by decide) (by decide) k) ?_
              refine own_go (fun t k => XS.iload X0.here hx rfl (hb hby at_175) rfl  k) ?_
              exact J177_155 x3
      show own_Run p e below Φ (s₁.setTop (mkF m 121 #[.val (.int p1), .val (.int p2), .val (.int p3), .val (.int p4), .val (.int p5), .val (.int p6), .val (.int (4 : Int32)), .val (.long la), .second, .val (.long lb), .second, .val (.long lc), .second, .val (.long ld), .second, .val (.long ld), .second, .val (.int x0), .val (.int x1), .val (.int x2), .val (.int x3), .val (.int (((p5.toUInt32 >>> ((11 : Int32) &&& 31).toUInt32).toInt32) &&& (3 : Int32))), .unset, .unset, .unset, .unset, .unset, .unset, .unset] []))
      refine own_go (fun t k => XS.iload X0.here hx rfl (hb hby at_121) rfl  k) ?_
      show own_Run p e below Φ (s₁.setTop (mkF m 123 #[.val (.int p1), .val (.int p2), .val (.int p3), .val (.int p4), .val (.int p5), .val (.int p6), .val (.int (4 : Int32)), .val (.long la), .second, .val (.long lb), .second, .val (.long lc), .second, .val (.long ld), .second, .val (.long ld), .second, .val (.int x0), .val (.int x1), .val (.int x2), .val (.int x3), .val (.int (((p5.toUInt32 >>> ((11 : Int32) &&& 31).toUInt32).toInt32) &&& (3 : Int32))), .unset, .unset, .unset, .unset, .unset, .unset, .unset] [(.int (4 : Int32))]))
      refine own_go (fun t k => XS.ifYes X0.here hx rfl (pc0 := 123) (pc' := 130) rfl (hb hby at_123) rfl ((if0 _ _).trans (feq (by decide : ¬ ((4 : Int32) = (0 : Int32)))).2) (by decide) (by decide) k) ?_
      refine own_go (fun t k => XS.iload X0.here hx rfl (hb hby at_130) rfl  k) ?_
      refine own_go (fun t k => XS.iconst X0.here hx rfl (hb hby at_132) k) ?_
      refine own_go (fun t k => XS.iushr X0.here hx rfl (hb hby at_133) rfl k) ?_
      refine own_go (fun t k => XS.sipush X0.here hx rfl (hb hby at_134) k) ?_
      show own_Run p e below Φ (s₁.setTop (mkF m 137 #[.val (.int p1), .val (.int p2), .val (.int p3), .val (.int p4), .val (.int p5), .val (.int p6), .val (.int (4 : Int32)), .val (.long la), .second, .val (.long lb), .second, .val (.long lc), .second, .val (.long ld), .second, .val (.long ld), .second, .val (.int x0), .val (.int x1), .val (.int x2), .val (.int x3), .val (.int (((p5.toUInt32 >>> ((11 : Int32) &&& 31).toUInt32).toInt32) &&& (3 : Int32))), .unset, .unset, .unset, .unset, .unset, .unset, .unset] [(.int (255 : Int32)), (.int ((p5.toUInt32 >>> ((3 : Int32) &&& 31).toUInt32).toInt32))]))
      refine own_go (fun t k => XS.iand X0.here hx rfl (hb hby at_137) rfl k) ?_
      refine own_go (fun t k => XS.iload X0.here hx rfl (hb hby at_138) rfl  k) ?_
      refine own_go (fun t k => Jvm.RoadKit.iremM X0 hx rfl (hb hby at_140) rfl (by decide) k) ?_
      exact J141_154 ((((p5.toUInt32 >>> ((3 : Int32) &&& 31).toUInt32).toInt32) &&& (255 : Int32)) % (4 : Int32))
set_option maxRecDepth 65536 in
set_option maxHeartbeats 40000000 in
theorem comes_1 {Post : Tables → Env → Array Value → State → Outcome → State → Prop} (hpost : ∀ tb e args s v u, (limb_1_1.after args s (.returned v) u = true ∧ limb_1_2.after args s (.returned v) u = true ∧ True) → FrameEnd s (.returned v) u (Jvm.fieldLocs frame_1_writes args s ++ Jvm.arrayLocs frame_1_arrays args s ++ Jvm.staticLocs frame_1_statics s) 16 128 → Post tb e args s (.returned v) u) :
    ArmFor flags0 classFile x code maxLocals ret World_1 tables_1 room_1 Calls_1 rest_1 Pre_1 Post := by
  intro l hfl _ _ p e ha hc hk s m args below hf hA hF happ hP
  obtain ⟨hcalls, hrest, hpre⟩ := hP
  obtain ⟨-, -, -, hnamed, -, -, -, hat⟩ := (Spec.applies_iff hf).mp happ
  obtain ⟨hg, hn⟩ := and_e (Cond.before_iff.mp (show (Jvm.Cond.and given_1 narrow_1).before args s = true from hpre))
  obtain ⟨hcount, hg⟩ := and_e hg
  obtain ⟨ha0, hg⟩ := and_e hg
  obtain ⟨ha1, hg⟩ := and_e hg
  obtain ⟨ha2, hg⟩ := and_e hg
  obtain ⟨ha3, hg⟩ := and_e hg
  obtain ⟨ha4, hg⟩ := and_e hg
  have ha5 := hg
  obtain ⟨w0, w1, w2, w3, w4, w5, rfl⟩ : ∃ w0 w1 w2 w3 w4 w5 : Value, args = #[w0, w1, w2, w3, w4, w5] := by
    have hs : args.size = 6 := by simpa [Cond.value, given_1] using hcount
    obtain ⟨L⟩ := args
    match L, hs with
    | [w0, w1, w2, w3, w4, w5], _ => exact ⟨w0, w1, w2, w3, w4, w5, rfl⟩
  have hw := fun d (hd : d ∈ tables_1) => atoms_spec (ws := Jvm.Cond.code x code maxLocals ret :: tables_1) hat d (List.mem_cons_of_mem _ hd)
  have hfit : Fit s := fun {y c} hc i hi => by
    obtain ⟨ha, rfl⟩ := Array.getElem?_eq_some_iff.mp hc
    have q := List.all_eq_true.mp ((Array.all_eq_true_iff_forall_mem.mp hF) _ (Array.getElem_mem ha)) i (List.mem_range.mpr hi)
    simpa [Array.getElem?_eq_getElem hi] using q
  obtain ⟨i0, ei0⟩ := is_v ha0
  obtain rfl : w0 = (.int i0) := Option.some.inj ei0
  obtain ⟨i1, ei1⟩ := is_v ha1
  obtain rfl : w1 = (.int i1) := Option.some.inj ei1
  obtain ⟨i2, ei2⟩ := is_v ha2
  obtain rfl : w2 = (.int i2) := Option.some.inj ei2
  obtain ⟨i3, ei3⟩ := is_v ha3
  obtain rfl : w3 = (.int i3) := Option.some.inj ei3
  obtain ⟨i4, ei4⟩ := is_v ha4
  obtain rfl : w4 = (.int i4) := Option.some.inj ei4
  obtain ⟨i5, ei5⟩ := is_v ha5
  obtain rfl : w5 = (.int i5) := Option.some.inj ei5
  obtain ⟨n, o, h1, h2, h3, _, L, rfl, ⟨rfl, N⟩, hq⟩ := rm_law l s _ hw i0 i1 i2 i3 i4 i5  s.heap s.heap.size (Nat.le_refl _) tables_1 p e ha hc hk s m _ below hf ((Spec.applies_iff_loose hf).mp happ).1 ⟨rfl, State.Warmed39.refl s, rfl⟩ trivial
  refine ⟨n, _, h1, h2, h3, hpost _ _ _ _ _ _ ⟨Cond.after_iff.mpr rfl, Cond.after_iff.mpr (eq_i res_at (Term.int_eval (1)) rfl), trivial⟩ ⟨hq.1, hq.2.1, (hq.2.2.sift fun y hy => Or.inr (N y hy)).mono (by decide) (by decide)⟩⟩
theorem main_1_1 : Claimed_1_1 := comes_1 fun _ _ _ _ _ _ h hF => ⟨h.1, hF⟩
theorem main_1_2 : Claimed_1_2 := comes_1 fun _ _ _ _ _ _ h hF => ⟨h.2.1, hF⟩
end Jvm.Pilot.@@N@@
namespace Jvm.Pilot.@@N@@
open Jvm Jvm.ClassFile Sem Op Lib Jvm.Free Jvm.Stand Jvm.Pilot.@@N@@.Jvm.D
/-! MADE BY PROGRAM (witnessworld.py) out of the Statement's table words and the real class files: 10 classes; the members and pool entries that the words name. The judged class is class 1, her method 1. -/
namespace start1
open Jvm.ClassFile
def u (s : String) : CpInfo := .utf8 (stringToUtf16 s)
/-- a pool by its gaps: so many unusable entries, then the entry; so many at the end -/
def gap : Nat → List CpInfo → List CpInfo
  | 0, r => r
  | n + 1, r => .unusable :: gap n r
def poolList (es : List (Nat × CpInfo)) (last : Nat) : List CpInfo := es.foldr (fun e r => gap e.1 (e.2 :: r)) (gap last [])
def pool (es : List (Nat × CpInfo)) (last : Nat) : Array CpInfo := ⟨poolList es last⟩
def fileOf (pool : Array CpInfo) (this : Nat) (attrs : Array Attribute := #[]) (ms : Array MethodInfo := #[]) (fl : Nat := 33) (sup : Nat := 0) (ifs : Array Nat := #[]) (fds : Array FieldInfo := #[]) : ClassFile where
  minorVersion := 0
  majorVersion := 65
  constantPool := pool
  accessFlags := fl
  thisClass := this
  superClass := sup
  interfaces := ifs
  fields := fds
  methods := ms
  attributes := attrs
def plain (name : String) (sup : Option ClassId) : Class where
  name := name
  kind := .ordinary
  loader := none
  accessFlags := 33
  super := sup
  interfaces := #[]
  cf := none
  fields := #[]
  methods := #[]
  instanceTypes := #[]
  staticTypes := #[]
  resolved := #[]
  callSites := []
  init := .initialized
  statics := none
  mirror := none

def pool0 : Array CpInfo := pool [(5, u "<init>"), (0, u "()V"), (1, .class_ 10), (1, u "java/lang/Object")] 113

def k0c0 : Code := { maxStack := 0, maxLocals := 1, code := object_method_1_code, exceptionTable := #[], attributes := #[] }
def k0m0 : Method := { name := "<init>", desc := "()V", sig := { parameters := [], returnType := none }, accessFlags := 1, code := some k0c0 }
/-- java/lang/Object -/
def k0 : Class := { plain "java/lang/Object" none with
  accessFlags := 33
  interfaces := #[]
  cf := some (fileOf pool0 8 #[] #[{ accessFlags := 1, nameIndex := 5, descriptorIndex := 6, attributes := #[] }] 33 0 #[] #[])
  fields := #[]
  methods := #[k0m0]
  instanceTypes := #[]
  staticTypes := #[]
  resolved := Array.replicate 124 none
  statics := none }

def pool1 : Array CpInfo := pool [(2, .class_ 4), (1, u "java/lang/Object"), (0, u "<init>"), (0, u "()V"), (0, .integer 65535), (2, .long 2147483647), (1, .class_ 13), (0, u "com/example/glossyn/glossyn/index/Postings"), (0, .methodref 12 15), (0, .nameAndType 5 16), (0, u "([I[II)V"), (0, .methodref 12 18), (0, .nameAndType 19 20), (0, u "contains"), (0, u "(I)Z"), (0, .class_ 22), (0, u "com/example/glossyn/glossyn/index/PostingsContainsPinLaw"), (2, u "law"), (0, u "(IIIIII)Z")] 5

def k1m0 : Method := { name := "<init>", desc := "()V", sig := { parameters := [], returnType := none }, accessFlags := 1, code := none }
def k1c1 : Code := { maxStack := 5, maxLocals := 29, code := code, exceptionTable := #[], attributes := #[] }
def k1m1 : Method := { name := "law", desc := "(IIIIII)Z", sig := { parameters := [.int, .int, .int, .int, .int, .int], returnType := some .boolean }, accessFlags := 9, code := some k1c1 }
/-- com/example/glossyn/glossyn/index/PostingsContainsPinLaw -/
def k1 : Class := { plain "com/example/glossyn/glossyn/index/PostingsContainsPinLaw" (some 0) with
  accessFlags := 49
  interfaces := #[]
  cf := some (fileOf pool1 21 #[] #[{ accessFlags := 1, nameIndex := 5, descriptorIndex := 6, attributes := #[] }, { accessFlags := 9, nameIndex := 25, descriptorIndex := 26, attributes := #[] }] 49 2 #[] #[])
  fields := #[]
  methods := #[k1m0, k1m1]
  instanceTypes := #[]
  staticTypes := #[]
  resolved := Array.replicate 32 none
  statics := none }

def pool2 : Array CpInfo := pool [(1, .methodref 2 3), (0, .class_ 4), (0, .nameAndType 5 6), (0, u "java/lang/Object"), (0, u "<init>"), (0, u "()V"), (0, .fieldref 8 9), (0, .class_ 10), (0, .nameAndType 11 12), (0, u "com/example/glossyn/glossyn/index/Postings"), (0, u "documents"), (0, u "[I"), (0, .fieldref 8 14), (0, .nameAndType 15 12), (0, u "frequencies"), (0, .fieldref 8 17), (0, .nameAndType 18 19), (0, u "size"), (0, u "I"), (39, u "([I[II)V"), (0, .methodref 61 62), (0, .class_ 63), (0, .nameAndType 64 65), (0, u "java/util/Arrays"), (0, u "binarySearch"), (0, u "([IIII)I"), (10, u "contains"), (0, u "(I)Z")] 23

def k2c0 : Code := { maxStack := 2, maxLocals := 4, code := prog_22_method_1_code, exceptionTable := #[], attributes := #[] }
def k2m0 : Method := { name := "<init>", desc := "([I[II)V", sig := { parameters := [(.array .int), (.array .int), .int], returnType := none }, accessFlags := 1, code := some k2c0 }
def k2c1 : Code := { maxStack := 4, maxLocals := 2, code := prog_22_method_5_code, exceptionTable := #[], attributes := #[] }
def k2m1 : Method := { name := "contains", desc := "(I)Z", sig := { parameters := [.int], returnType := some .boolean }, accessFlags := 1, code := some k2c1 }
/-- com/example/glossyn/glossyn/index/Postings -/
def k2 : Class := { plain "com/example/glossyn/glossyn/index/Postings" (some 0) with
  accessFlags := 33
  interfaces := #[]
  cf := some (fileOf pool2 8 #[] #[{ accessFlags := 1, nameIndex := 5, descriptorIndex := 59, attributes := #[] }, { accessFlags := 1, nameIndex := 76, descriptorIndex := 77, attributes := #[] }] 33 2 #[] #[{ accessFlags := 18, nameIndex := 11, descriptorIndex := 12, attributes := #[] }, { accessFlags := 18, nameIndex := 15, descriptorIndex := 12, attributes := #[] }, { accessFlags := 18, nameIndex := 18, descriptorIndex := 19, attributes := #[] }])
  fields := #[{ name := "documents", type := (.array .int), accessFlags := 18, slot := 0, constantValue := 0 }, { name := "frequencies", type := (.array .int), accessFlags := 18, slot := 1, constantValue := 0 }, { name := "size", type := .int, accessFlags := 18, slot := 2, constantValue := 0 }]
  methods := #[k2m0, k2m1]
  instanceTypes := #[(.array .int), (.array .int), .int]
  staticTypes := #[]
  resolved := Array.replicate 101 none
  statics := none }

def pool3 : Array CpInfo := pool [(2, .class_ 4), (1, u "java/lang/Object"), (0, u "<init>"), (0, u "()V"), (6, .methodref 14 15), (0, .class_ 16), (0, .nameAndType 17 18), (0, u "java/util/Arrays"), (0, u "rangeCheck"), (0, u "(III)V"), (55, .class_ 76), (1, u "java/util/Arrays$NaturalOrder"), (36, .class_ 115), (1, u "java/util/Arrays$LegacyMergeSort"), (1, u "Z"), (89, u "binarySearch0"), (1, .methodref 14 210), (0, .nameAndType 207 211), (0, u "([IIII)I"), (163, .class_ 376), (0, u "java/util/Arrays$ArrayList"), (68, u "$assertionsDisabled"), (269, u "MIN_ARRAY_SORT_GRAN"), (0, u "I"), (2, u "INSERTIONSORT_THRESHOLD"), (74, u "binarySearch"), (180, .class_ 976), (0, u "java/util/Arrays$ArrayItr")] 52

def k3m0 : Method := { name := "<init>", desc := "()V", sig := { parameters := [], returnType := none }, accessFlags := 2, code := none }
def k3c1 : Code := { maxStack := 4, maxLocals := 3, code := jdk_65_method_30_code, exceptionTable := #[], attributes := #[] }
def k3m1 : Method := { name := "rangeCheck", desc := "(III)V", sig := { parameters := [.int, .int, .int], returnType := none }, accessFlags := 8, code := some k3c1 }
def k3c2 : Code := { maxStack := 4, maxLocals := 4, code := jdk_65_method_58_code, exceptionTable := #[], attributes := #[] }
def k3m2 : Method := { name := "binarySearch", desc := "([IIII)I", sig := { parameters := [(.array .int), .int, .int, .int], returnType := some .int }, accessFlags := 9, code := some k3c2 }
def k3c3 : Code := { maxStack := 2, maxLocals := 8, code := jdk_65_method_59_code, exceptionTable := #[], attributes := #[] }
def k3m3 : Method := { name := "binarySearch0", desc := "([IIII)I", sig := { parameters := [(.array .int), .int, .int, .int], returnType := some .int }, accessFlags := 10, code := some k3c3 }
/-- java/util/Arrays -/
def k3 : Class := { plain "java/util/Arrays" (some 0) with
  accessFlags := 49
  interfaces := #[]
  cf := some (fileOf pool3 14 #[.nestMembers #[975, 375, 113, 74]] #[{ accessFlags := 2, nameIndex := 5, descriptorIndex := 6, attributes := #[] }, { accessFlags := 8, nameIndex := 17, descriptorIndex := 18, attributes := #[] }, { accessFlags := 9, nameIndex := 794, descriptorIndex := 211, attributes := #[] }, { accessFlags := 10, nameIndex := 207, descriptorIndex := 211, attributes := #[] }] 49 2 #[] #[{ accessFlags := 26, nameIndex := 715, descriptorIndex := 716, attributes := #[] }, { accessFlags := 26, nameIndex := 719, descriptorIndex := 716, attributes := #[] }, { accessFlags := 4120, nameIndex := 445, descriptorIndex := 117, attributes := #[] }])
  fields := #[{ name := "MIN_ARRAY_SORT_GRAN", type := .int, accessFlags := 26, slot := 0, constantValue := 0 }, { name := "INSERTIONSORT_THRESHOLD", type := .int, accessFlags := 26, slot := 1, constantValue := 0 }, { name := "$assertionsDisabled", type := .boolean, accessFlags := 4120, slot := 2, constantValue := 0 }]
  methods := #[k3m0, k3m1, k3m2, k3m3]
  instanceTypes := #[]
  staticTypes := #[.int, .int, .boolean]
  resolved := Array.replicate 1029 none
  statics := none }

def pool4 : Array CpInfo := pool [(1, u "java/lang/Cloneable"), (0, .class_ 1), (0, u "java/lang/Object"), (0, .class_ 3)] 3

/-- java/lang/Cloneable -/
def k4 : Class := { plain "java/lang/Cloneable" (some 0) with
  accessFlags := 1537
  interfaces := #[]
  cf := some (fileOf pool4 2 #[] #[] 1537 4 #[] #[])
  fields := #[]
  methods := #[]
  instanceTypes := #[]
  staticTypes := #[]
  resolved := Array.replicate 8 none
  statics := none }

def pool5 : Array CpInfo := pool [(1, u "java/io/Serializable"), (0, .class_ 1), (0, u "java/lang/Object"), (0, .class_ 3)] 3

/-- java/io/Serializable -/
def k5 : Class := { plain "java/io/Serializable" (some 0) with
  accessFlags := 1537
  interfaces := #[]
  cf := some (fileOf pool5 2 #[] #[] 1537 4 #[] #[])
  fields := #[]
  methods := #[]
  instanceTypes := #[]
  staticTypes := #[]
  resolved := Array.replicate 8 none
  statics := none }

/-- the primitive byte -/
def k6 : Class := { plain "byte" none with kind := .primitive 'B', accessFlags := 0x411 }
/-- [B -/
def k7 : Class := { plain "[B" (some 0) with kind := .array 6 .byte, interfaces := #[4, 5], accessFlags := 1041 }

/-- the primitive int -/
def k8 : Class := { plain "int" none with kind := .primitive 'I', accessFlags := 0x411 }
/-- [I -/
def k9 : Class := { plain "[I" (some 0) with kind := .array 8 .int, interfaces := #[4, 5], accessFlags := 1041 }

def heap : Heap := #[]
def classes : Array Class := #[k0, k1, k2, k3, k4, k5, k6, k7, k8, k9]
def interned : List (Array UInt16 × Addr) := []
def slotsUsed : Nat := 0
def theMethod : MethodId := ⟨1, 1⟩
def args0 : Array Value := #[.int 5, .int 7, .int 9, .int 11, .int 13, .int 15]
def aboutOver (below : List Frame) : State where
  vm := { classes := classes, interned := interned.toArray }
  heap := heap
  slotsUsed := slotsUsed
  threads := #[{ frames := .invoking theMethod args0 :: below }]
def below0 : List Frame := [.native { method := ⟨0, 0⟩, args := #[] }]
def about1 : State := aboutOver below0
def p0 : Program := .bare "" "" ""
def e0 : Env := launch0.env 0 0 0
theorem w_frames : about1.frames = Frame.invoking theMethod args0 :: below0 := rfl
set_option maxRecDepth 65536 in
theorem w_args : argsFit about1.vm theMethod args0 = true := by decide +kernel
set_option maxRecDepth 65536 in
theorem w_heap : heapFits about1 = true := by decide +kernel
set_option maxRecDepth 65536 in
theorem w_runnable : about1.curStatus? = some .runnable := by decide +kernel
set_option maxRecDepth 65536 in
theorem w_alone : about1.alone = true := by decide +kernel
set_option maxRecDepth 65536 in
theorem w_named : about1.methodNamed? x = some theMethod := by decide +kernel
set_option maxRecDepth 65536 in
theorem w_hears : about1.hears theMethod below0 = true := by decide +kernel
set_option maxRecDepth 65536 in
theorem w_ripe : about1.ripe theMethod args0 below0 = true := by decide +kernel
theorem w_running : about1.status = .running := rfl
set_option maxRecDepth 65536 in
theorem w_room : about1.hasRoom e0.platform room_1 = true :=
  launch0.hasRoom_least _ room_1 (by decide +kernel) (by decide +kernel) (by decide +kernel) (by decide +kernel) (by decide +kernel) (by decide +kernel)
theorem allAtoms_all (ts : List Jvm.Cond) (a : Array Jvm.Value) (st : Jvm.State) : (allAtoms ts).before a st = ts.all (fun c => c.before a st) := by
  induction ts with
  | nil => rfl
  | cons c t ih =>
    show (Jvm.Cond.and c (allAtoms t)).before a st = _
    rw [Jvm.Cond.before_and, ih, List.all_cons]
def words1 : List Jvm.Cond := Jvm.Cond.code x code maxLocals ret :: tables_1
/-- a 'code' word, met by the world's own term for the bytes: nothing is compared byte by byte -/
theorem code_word {y : MethodName} {bytes : ByteArray} {mx : Nat} {rt : Option FieldType} {a : Array Value} {s : State} {m : MethodId} {meth : Method} {c : Code} (h1 : s.methodNamed? y = some m) (h2 : s.vm.method? m = some meth) (h3 : meth.code = some c) (h4 : c.code = bytes)
    (h5 : (c.maxLocals == mx && c.exceptionTable.isEmpty && decide (c.maxStack ≤ mostOperands) && decide (meth.sig.returnType = rt) && !meth.locks && decide (parseMethodDescriptor y.desc = some meth.sig)) = true) : (Jvm.Cond.code y bytes mx rt).before a s = true := by
  simp only [Bool.and_eq_true, beq_iff_eq, Bool.not_eq_true', decide_eq_true_eq] at h5
  obtain ⟨⟨⟨⟨⟨g1, g2⟩, g3⟩, g4⟩, g5⟩, g6⟩ := h5
  simp [Cond.before, Cond.holds, Cond.value, h1, h2, h3, h4, g1, g2, g3, g4, g5, g6]
def isCode : Jvm.Cond → Bool
  | .code _ _ _ _ => true
  | _ => false
theorem all_split {L : List Jvm.Cond} {P : Jvm.Cond → Bool} (h1 : L.all (fun c => isCode c || P c) = true) (h2 : ∀ c ∈ L.filter isCode, P c = true) : L.all P = true := by
  refine List.all_eq_true.mpr fun c hc => ?_
  have h := List.all_eq_true.mp h1 c hc
  rcases Bool.eq_false_or_eq_true (isCode c) with hi | hi
  · exact h2 c (List.mem_filter.mpr ⟨hc, hi⟩)
  · simpa [hi] using h
set_option maxRecDepth 65536 in
theorem w_c0 : (Jvm.Cond.code x code maxLocals ret).before args0 about1 = true := code_word (m := ⟨1, 1⟩) (meth := k1m1) (c := k1c1) (by decide +kernel) rfl rfl rfl (by decide +kernel)
set_option maxRecDepth 65536 in
theorem w_c1 : (Jvm.Cond.code ({ cls := "com/example/glossyn/glossyn/index/Postings", name := "<init>", desc := "([I[II)V" } : Jvm.MethodName) prog_22_method_1_code (4 : Nat) (Option.none : Option Jvm.ClassFile.FieldType)).before args0 about1 = true := code_word (m := ⟨2, 0⟩) (meth := k2m0) (c := k2c0) (by decide +kernel) rfl rfl rfl (by decide +kernel)
set_option maxRecDepth 65536 in
theorem w_c2 : (Jvm.Cond.code ({ cls := "java/lang/Object", name := "<init>", desc := "()V" } : Jvm.MethodName) object_method_1_code (1 : Nat) (Option.none : Option Jvm.ClassFile.FieldType)).before args0 about1 = true := code_word (m := ⟨0, 0⟩) (meth := k0m0) (c := k0c0) (by decide +kernel) rfl rfl rfl (by decide +kernel)
set_option maxRecDepth 65536 in
theorem w_c3 : (Jvm.Cond.code ({ cls := "com/example/glossyn/glossyn/index/Postings", name := "contains", desc := "(I)Z" } : Jvm.MethodName) prog_22_method_5_code (2 : Nat) (Option.some Jvm.ClassFile.FieldType.boolean)).before args0 about1 = true := code_word (m := ⟨2, 1⟩) (meth := k2m1) (c := k2c1) (by decide +kernel) rfl rfl rfl (by decide +kernel)
set_option maxRecDepth 65536 in
theorem w_c4 : (Jvm.Cond.code ({ cls := "java/util/Arrays", name := "binarySearch", desc := "([IIII)I" } : Jvm.MethodName) jdk_65_method_58_code (4 : Nat) (Option.some Jvm.ClassFile.FieldType.int)).before args0 about1 = true := code_word (m := ⟨3, 2⟩) (meth := k3m2) (c := k3c2) (by decide +kernel) rfl rfl rfl (by decide +kernel)
set_option maxRecDepth 65536 in
theorem w_c5 : (Jvm.Cond.code ({ cls := "java/util/Arrays", name := "rangeCheck", desc := "(III)V" } : Jvm.MethodName) jdk_65_method_30_code (3 : Nat) (Option.none : Option Jvm.ClassFile.FieldType)).before args0 about1 = true := code_word (m := ⟨3, 1⟩) (meth := k3m1) (c := k3c1) (by decide +kernel) rfl rfl rfl (by decide +kernel)
set_option maxRecDepth 65536 in
theorem w_c6 : (Jvm.Cond.code ({ cls := "java/util/Arrays", name := "binarySearch0", desc := "([IIII)I" } : Jvm.MethodName) jdk_65_method_59_code (8 : Nat) (Option.some Jvm.ClassFile.FieldType.int)).before args0 about1 = true := code_word (m := ⟨3, 3⟩) (meth := k3m3) (c := k3c3) (by decide +kernel) rfl rfl rfl (by decide +kernel)
def codes1 : List Jvm.Cond := [Jvm.Cond.code x code maxLocals ret, Jvm.Cond.code ({ cls := "com/example/glossyn/glossyn/index/Postings", name := "<init>", desc := "([I[II)V" } : Jvm.MethodName) prog_22_method_1_code (4 : Nat) (Option.none : Option Jvm.ClassFile.FieldType), Jvm.Cond.code ({ cls := "java/lang/Object", name := "<init>", desc := "()V" } : Jvm.MethodName) object_method_1_code (1 : Nat) (Option.none : Option Jvm.ClassFile.FieldType), Jvm.Cond.code ({ cls := "com/example/glossyn/glossyn/index/Postings", name := "contains", desc := "(I)Z" } : Jvm.MethodName) prog_22_method_5_code (2 : Nat) (Option.some Jvm.ClassFile.FieldType.boolean), Jvm.Cond.code ({ cls := "java/util/Arrays", name := "binarySearch", desc := "([IIII)I" } : Jvm.MethodName) jdk_65_method_58_code (4 : Nat) (Option.some Jvm.ClassFile.FieldType.int), Jvm.Cond.code ({ cls := "java/util/Arrays", name := "rangeCheck", desc := "(III)V" } : Jvm.MethodName) jdk_65_method_30_code (3 : Nat) (Option.none : Option Jvm.ClassFile.FieldType), Jvm.Cond.code ({ cls := "java/util/Arrays", name := "binarySearch0", desc := "([IIII)I" } : Jvm.MethodName) jdk_65_method_59_code (8 : Nat) (Option.some Jvm.ClassFile.FieldType.int)]
set_option maxRecDepth 65536 in
theorem codes_eq : words1.filter isCode = codes1 := rfl
theorem w_codes : ∀ c ∈ words1.filter isCode, c.before args0 about1 = true := by
  rw [codes_eq]
  intro c hc
  simp only [codes1, List.mem_cons, List.not_mem_nil, or_false] at hc
  rcases hc with rfl | rfl | rfl | rfl | rfl | rfl | rfl
  · exact w_c0
  · exact w_c1
  · exact w_c2
  · exact w_c3
  · exact w_c4
  · exact w_c5
  · exact w_c6
set_option maxRecDepth 65536 in
theorem w_t1 : (words1.take 24).all (fun c => isCode c || c.before args0 about1) = true := by decide +kernel
set_option maxRecDepth 65536 in
theorem w_t2 : (words1.drop 24).all (fun c => isCode c || c.before args0 about1) = true := by decide +kernel
theorem w_tables : (allAtoms (Jvm.Cond.code x code maxLocals ret :: tables_1)).before args0 about1 = true := by
  rw [allAtoms_all]
  show words1.all (fun c => c.before args0 about1) = true
  refine all_split ?_ w_codes
  rw [← List.take_append_drop 24 words1, List.all_append, w_t1, w_t2]
  rfl
set_option maxRecDepth 65536 in
theorem w_case : (Jvm.Cond.and given_1 narrow_1).before args0 about1 = true := by decide +kernel
theorem w_applies : (headSpec (Jvm.Cond.code x code maxLocals ret :: tables_1) room_1).applies x e0.platform about1 = true :=
  (Spec.applies_iff w_frames).mpr ⟨w_running, w_runnable, w_alone, w_named, w_hears, w_ripe, w_room, w_tables⟩
theorem atStart : AtStart classFile x code maxLocals ret World_1 tables_1 room_1 Calls_1 rest_1 Pre_1 launch0 p0 e0 about1 theMethod args0 below0 :=
  ⟨lists_1, trivial, launch0.admits_env _ _ _, launch0.least_env, fairChoices_fair.cas, fairChoices_fair.clock, w_frames, w_args, w_heap, w_applies, trivial, trivial, w_case⟩
end start1
theorem witness_1 : WitnessClaimed_1 := ⟨start1.p0, start1.e0, start1.about1, start1.theMethod, start1.args0, start1.below0, start1.atStart⟩
end Jvm.Pilot.@@N@@
