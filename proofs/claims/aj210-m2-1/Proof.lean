import JvmDerived
import JvmDerived.Pilot.@@N@@Statement
import JvmDerived.Pilot.@@N@@Code
set_option linter.unusedVariables false
set_option linter.unusedSimpArgs false
set_option maxHeartbeats 40000000
namespace Jvm.RoadKit
open Sem ClassFile Op Lib Jvm.Stand Jvm.Free Jvm.LawKit
section New
variable {p : Program} {l : Launch} {e : Env} {R : Room} {s : State} {m : MethodId} {args : Array Value} {below : List Frame} {meth : Method} {c : Code} {T : State} {locs : List Loc} {cells slots : Nat}
theorem retI (X : Stand p l e R s m args below meth c T locs cells slots) (hx : p.tables.exec = Jvm.exec) {pc : Nat} {Ls : Array Slot} {z : Int32} {rest : List Value} (hret : meth.sig.returnType = some .int) (hd : decode c.code pc = .ok (.ireturn, 1)) {fs : List Frame}
    (hl : ∀ (f : JFrame) (acts : List Action), f.method = m → f.locked = none → f.entered = [] → (doReturn e (T.setTop f) acts (some (.int z))).1 = T.setFrames fs) : Steps p.tables e below (T.setTop (mkF m pc Ls (.int z :: rest))) (T.setFrames fs) := by
  have hm' : T.vm.method? m = some meth := X.method'
  have hn : narrow .int (.int z) = .int z := rfl
  show Steps p.tables e below (T.setTop { method := m, pc := pc, locals := Ls, stack := _ :: rest, locked := none }) _
  jvm_step X.here [X.here.top, hx, hd, hm', hret, hn]
  first | (intro acts; rw [hl _ acts rfl rfl rfl]) | rw [hl _ _ rfl rfl rfl]
  exact Steps.refl _
end New
end Jvm.RoadKit
namespace Jvm.Pilot.@@N@@
open Jvm Jvm.ClassFile Sem Op Lib Jvm.Free Jvm.Stand Jvm.LawKit Jvm.RoadKit Bundle Jvm.Pilot.@@N@@.Jvm.D
/-! a run that ends well: what this text is made of -/
def own_Run (p : Program) (e : Env) (below : List Frame) (Φ : State → Prop) (S : State) : Prop := ∃ t, Steps p.tables e below S t ∧ Φ t
def own_Fin (s : State) (below : List Frame) (C D : Nat) (Q : Option Value → Heap → List Loc → Prop) (t : State) : Prop :=
  t.status = .running ∧ ∃ v L, Ended t below (.returned v) ∧ Q v t.heap L ∧ FrameEnd s (.returned v) t L C D
def own_Met (l : Launch) (Z : State) (y : MethodName) (bytes : ByteArray) (maxL : Nat) (ret : Option FieldType) (rm : Room) (as : Array Value) (h : Heap) (Q : Option Value → Heap → List Loc → Prop) : Prop :=
  ∀ ws : List Jvm.Cond, MetFree l y (head1 (Jvm.Cond.code y bytes maxL ret :: ws) rm) (fun a U => a = as ∧ Z.Warmed39 U.vm ∧ U.heap = h) (fun _ _ _ _ _ => True) (fun _ U o U' => ∃ v L, o = .returned v ∧ Q v U'.heap L ∧ FrameEnd U o U' L rm.cells rm.slots)
section OwnRun
variable {p : Program} {l : Launch} {e : Env} {R : Room} {s : State} {m : MethodId} {args : Array Value} {below : List Frame} {meth : Method} {c : Code} {T : State} {locs : List Loc} {cells slots : Nat} {Φ : State → Prop} {S S' : State} {Z : State} {a0 : Array Value} {h : Heap}
theorem own_go (st : ∀ t, Steps p.tables e below S' t → Steps p.tables e below S t) (r : own_Run p e below Φ S') : own_Run p e below Φ S := r.elim fun t q => ⟨t, st t q.1, q.2⟩
theorem own_via (st : Steps p.tables e below S S') (r : own_Run p e below Φ S') : own_Run p e below Φ S := r.elim fun t q => ⟨t, st.trans q.1, q.2⟩
theorem own_cast {g g' : JFrame} (q : g = g') (r : own_Run p e below Φ (T.setTop g')) : own_Run p e below Φ (T.setTop g) := q ▸ r
theorem own_body {C D : Nat} {Q : Option Value → Heap → List Loc → Prop} (r : own_Run p e below (own_Fin s below C D Q) S) :
    ∃ s₂ o, Steps p.tables e below S s₂ ∧ s₂.status = .running ∧ Ended s₂ below o ∧ ∃ v L, o = .returned v ∧ Q v s₂.heap L ∧ FrameEnd s o s₂ L C D := by
  obtain ⟨t, q1, q2, v, L, q3, q4, q5⟩ := r
  exact ⟨t, _, q1, q2, q3, v, L, rfl, q4, q5⟩
variable {C D : Nat} {Q : Option Value → Heap → List Loc → Prop}
theorem own_retI (X : Stand p l e R s m args below meth c T locs cells slots) (hx : p.tables.exec = Jvm.exec) (hret : meth.sig.returnType = some .int) (hlk : meth.locks = false) {pc : Nat} {Ls : Array Slot} {z : Int32} {rest : List Value} (hd : decode c.code pc = .ok (.ireturn, 1)) (eT : T.heap = h) (hq : Q (some (.int z)) h locs) (hc : cells ≤ C) (hs : slots ≤ D) :
    own_Run p e below (own_Fin s below C D Q) (T.setTop (mkF m pc Ls (.int z :: rest))) := by
  obtain ⟨fs, hr, hrun, hended, hW, hsame⟩ := X.leave (v := some (.int z)) (fun q => by rw [hret] at q; cases q) hlk
  exact ⟨_, retI X hx hret hd hr, hrun, _, _, hended, by show Q _ T.heap _; rw [eT]; exact hq, ⟨_, rfl⟩, hW, hsame.mono hc hs⟩
theorem own_retN (X : Stand p l e R s m args below meth c T locs cells slots) (hx : p.tables.exec = Jvm.exec) {t : FieldType} (hret : meth.sig.returnType = some t) (ht : t = .boolean ∨ t = .byte ∨ t = .char ∨ t = .short) (hlk : meth.locks = false) {pc : Nat} {Ls : Array Slot} {z : Int32} {rest : List Value} (hd : decode c.code pc = .ok (.ireturn, 1)) (eT : T.heap = h) (hq : Q (some (.int (nar t z))) h locs) (hc : cells ≤ C) (hs : slots ≤ D) :
    own_Run p e below (own_Fin s below C D Q) (T.setTop (mkF m pc Ls (.int z :: rest))) := by
  obtain ⟨fs, hr, hrun, hended, hW, hsame⟩ := X.leave (v := some (.int (nar t z))) (fun q => by rw [hret] at q; cases q) hlk
  exact ⟨_, retN X hx hret ht hd hr, hrun, _, _, hended, by show Q _ T.heap _; rw [eT]; exact hq, ⟨_, rfl⟩, hW, hsame.mono hc hs⟩
theorem own_retV (X : Stand p l e R s m args below meth c T locs cells slots) (hx : p.tables.exec = Jvm.exec) (hret : meth.sig.returnType = none) (hlk : meth.locks = false) {pc : Nat} {Ls : Array Slot} (hd : decode c.code pc = .ok (.return_, 1)) (eT : T.heap = h) (hq : Q none h locs) (hc : cells ≤ C) (hs : slots ≤ D) :
    own_Run p e below (own_Fin s below C D Q) (T.setTop (mkF m pc Ls [])) := by
  obtain ⟨fs, hr, hrun, hended, hW, hsame⟩ := X.leave (v := none) (fun _ => rfl) hlk
  exact ⟨_, X.returnOut hx hret hd hr, hrun, _, _, hended, by show Q _ T.heap _; rw [eT]; exact hq, ⟨_, rfl⟩, hW, hsame.mono hc hs⟩
theorem own_retO (X : Stand p l e R s m args below meth c T locs cells slots) (hx : p.tables.exec = Jvm.exec) {t : FieldType} {i : Instr} {w : Value} (hret : meth.sig.returnType = some t) (hn : narrow t w = w)
    (hi : (i = .ireturn ∧ (t = .int ∨ t = .boolean ∨ t = .byte ∨ t = .char ∨ t = .short) ∧ ∃ z, w = .int z) ∨ (i = .lreturn ∧ t = .long ∧ ∃ z, w = .long z) ∨ (i = .dreturn ∧ t = .double ∧ ∃ z, w = .double z) ∨ (i = .freturn ∧ t = .float ∧ ∃ z, w = .float z) ∨ (i = .areturn ∧ t.isReference = true ∧ w.isRef = true))
    (hlk : meth.locks = false) {pc : Nat} {Ls : Array Slot} {rest : List Value} (hd : decode c.code pc = .ok (i, 1)) (eT : T.heap = h) (hq : Q (some w) h locs) (hc : cells ≤ C) (hs : slots ≤ D) :
    own_Run p e below (own_Fin s below C D Q) (T.setTop (mkF m pc Ls (w :: rest))) := by
  obtain ⟨fs, hr, hrun, hended, hW, hsame⟩ := X.leave (v := some w) (fun q => by rw [hret] at q; cases q) hlk
  exact ⟨_, retOut X hx hret hn hi hd hr, hrun, _, _, hended, by show Q _ T.heap _; rw [eT]; exact hq, ⟨_, rfl⟩, hW, hsame.mono hc hs⟩
/-- who pays a call -/
def own_Bk (l : Launch) (R : Room) (p : Program) (e : Env) (below : List Frame) (s : State) (args : Array Value) (y : MethodName) (W : Nat) (as : Array Value) (h : Heap) (cc ss : Nat) (Q : Option Value → Heap → List Loc → Prop) : Prop :=
  Back l R p e below s args y 3 W (fun A a => a = as ∧ A.U.heap = h ∧ A.cells + cc ≤ R.cells ∧ A.slots + ss ≤ R.slots) (fun A _ v B => ∃ L, Q v B.U.heap L ∧ B.locs = A.locs ++ L ∧ B.cells = A.cells + cc ∧ B.slots = A.slots + ss)
theorem own_bk {y : MethodName} {bytes : ByteArray} {maxL : Nat} {ret : Option FieldType} {rm : Room} {W : Nat} {as : Array Value} (hM : own_Met l Z y bytes maxL ret rm as h Q) (hZ : Z.Warmed39 s.vm) (wc : (Jvm.Cond.code y bytes maxL ret).before a0 Z = true) (wz : (Jvm.Cond.initialized y.cls).before a0 Z = true) (hf : rm.frames + 1 ≤ R.frames) (hl : W + (maxL + 11) + rm.locals ≤ R.locals) :
    own_Bk l R p e below s args y W as h rm.cells rm.slots Q := backOf (W := W) (hM []) hZ wc wz hf hl
/-- a static method by its contract -/
theorem own_callS (X : Stand p l e R s m args below meth c T locs cells slots) (hx : p.tables.exec = Jvm.exec) (hZ : Z.Warmed39 s.vm) {own : String} {index : Nat} {y : MethodName} {bytes : ByteArray} {maxL : Nat} {ret : Option FieldType} {cc ss : Nat}
    (hown : s.vm.findClass own = some m.cls) (w1 : (Jvm.Cond.methodLink own index y).before a0 Z = true) (w2 : (Jvm.Cond.static y).before a0 Z = true) (w3 : (Jvm.Cond.initialized y.cls).before a0 Z = true) (w4 : (Jvm.Cond.code y bytes maxL ret).before a0 Z = true)
    (hy : y.cls ≠ "java/lang/invoke/MethodHandle" ∧ y.cls ≠ "java/lang/invoke/VarHandle") {W : Nat} {argsL rest : List Value} (hK : own_Bk l R p e below s args y W argsL.toArray h cc ss Q) (eT : T.heap = h)
    {g : JFrame} (hg : g.method = m) (hsize : g.locals.size = c.maxLocals) (hlen : ∀ sig, parseMethodDescriptor y.desc = some sig → argsL.length = sig.parameters.length)
    (hstack : g.stack = argsL.reverse ++ rest) (hW : 2 * g.monitorRoom + (rest.map fun v => v.category).sum ≤ W) (hdg : decode c.code g.pc = .ok (.invokestatic index, 3))
    (hcl : cells + cc ≤ R.cells) (hsl : slots + ss ≤ R.slots)
    (k : ∀ v T' h' L, Stand p l e R s m args below meth c T' (locs ++ L) (cells + cc) (slots + ss) → T'.heap = h' → Q v h' L → own_Run p e below Φ (T'.setTop { g with pc := g.pc + 3, stack := v.toList ++ rest })) : own_Run p e below Φ (T.setTop g) := by
  obtain ⟨v, _, ⟨T', L', k', n'⟩, -, X', ⟨Lc, hQ, l1, y1, z1⟩, st⟩ := Jvm.LawKit.callS X hx (y := y) hown (mvT hZ w1) (mvT hZ w2) (mvT hZ w3) (mvT hZ w4) hy hK hg hsize hlen hstack hW hdg (fun _ _ => ⟨rfl, eT, hcl, hsl⟩)
  dsimp only [Pt.U, Pt.locs, Pt.cells, Pt.slots] at X' l1 y1 z1 st hQ
  subst l1 y1 z1
  exact own_go st (k v T' _ Lc X' rfl hQ)
/-- a constructor by its contract -/
theorem own_callI (X : Stand p l e R s m args below meth c T locs cells slots) (hx : p.tables.exec = Jvm.exec) (hZ : Z.Warmed39 s.vm) {own : String} {index : Nat} {y : MethodName} {bytes : ByteArray} {maxL : Nat} {cc ss : Nat} (hy1 : y.name = "<init>")
    (hown : s.vm.findClass own = some m.cls) (w1 : (Jvm.Cond.methodLink own index y).before a0 Z = true) (w2 : (Jvm.Cond.instanceMethod y).before a0 Z = true) (w4 : (Jvm.Cond.code y bytes maxL none).before a0 Z = true)
    (hy : y.cls ≠ "java/lang/invoke/MethodHandle" ∧ y.cls ≠ "java/lang/invoke/VarHandle") {W : Nat} {a : Addr} {argsL rest : List Value} (hK : own_Bk l R p e below s args y W (.ref a :: argsL).toArray h cc ss Q) (eT : T.heap = h)
    {g : JFrame} (hg : g.method = m) (hsize : g.locals.size = c.maxLocals) (hlen : ∀ sig, parseMethodDescriptor y.desc = some sig → argsL.length = sig.parameters.length)
    (hstack : g.stack = argsL.reverse ++ .ref a :: rest) (hW : 2 * g.monitorRoom + (rest.map fun v => v.category).sum ≤ W) (hdg : decode c.code g.pc = .ok (.invokespecial index, 3))
    (hcl : cells + cc ≤ R.cells) (hsl : slots + ss ≤ R.slots)
    (k : ∀ v T' h' L, Stand p l e R s m args below meth c T' (locs ++ L) (cells + cc) (slots + ss) → T'.heap = h' → Q v h' L → own_Run p e below Φ (T'.setTop { g with pc := g.pc + 3, stack := v.toList ++ rest })) : own_Run p e below Φ (T.setTop g) := by
  obtain ⟨v, _, ⟨T', L', k', n'⟩, -, X', ⟨Lc, hQ, l1, y1, z1⟩, st⟩ := X.specialBack hx (y := y) hy1 hown (mvT hZ w1) (mvT hZ w2) (mvT hZ w4) hy hK hg hsize (Steps.refl _) (a := a) hlen hstack hW hdg (fun _ _ => ⟨rfl, eT, hcl, hsl⟩)
  dsimp only [Pt.U, Pt.locs, Pt.cells, Pt.slots] at X' l1 y1 z1 st hQ
  subst l1 y1 z1
  exact own_via st (k v T' _ Lc X' rfl hQ)
/-- an instance method by the contract of the body that the receiver's class selects -/
theorem own_callV (X : Stand p l e R s m args below meth c T locs cells slots) (hx : p.tables.exec = Jvm.exec) (hZ : Z.Warmed39 s.vm) {own C : String} {index : Nat} {y z : MethodName} {cc ss : Nat}
    (hown : s.vm.findClass own = some m.cls) (w1 : (Jvm.Cond.methodLink own index y).before a0 Z = true) (w2 : (Jvm.Cond.declares y).before a0 Z = true) (hnf : NotFace s y) (w3 : (Jvm.Cond.selects C y z).before a0 Z = true) (w4 : (Jvm.Cond.instanceMethod z).before a0 Z = true)
    (hy : y.cls ≠ "java/lang/invoke/MethodHandle" ∧ y.cls ≠ "java/lang/invoke/VarHandle") {W : Nat} {a : Addr} {argsL rest : List Value} (hK : own_Bk l R p e below s args z W (.ref a :: argsL).toArray h cc ss Q) (eT : T.heap = h) (E : Exa Z h a C)
    {g : JFrame} (hg : g.method = m) (hsize : g.locals.size = c.maxLocals) (hlen : ∀ sig, parseMethodDescriptor y.desc = some sig → argsL.length = sig.parameters.length)
    (hstack : g.stack = argsL.reverse ++ .ref a :: rest) (hW : 2 * g.monitorRoom + (rest.map fun v => v.category).sum ≤ W) (hdg : decode c.code g.pc = .ok (.invokevirtual index, 3))
    (hcl : cells + cc ≤ R.cells) (hsl : slots + ss ≤ R.slots)
    (k : ∀ v T' h' L, Stand p l e R s m args below meth c T' (locs ++ L) (cells + cc) (slots + ss) → T'.heap = h' → Q v h' L → own_Run p e below Φ (T'.setTop { g with pc := g.pc + 3, stack := v.toList ++ rest })) : own_Run p e below Φ (T.setTop g) := by
  obtain ⟨cq, kq, qa, qb, qc⟩ := isOf hZ eT E
  obtain ⟨v, _, ⟨T', L', k', n'⟩, -, X', ⟨Lc, hQ, l1, y1, z1⟩, st⟩ := X.virtualBack hx (y := y) (z := z) hown (mvT hZ w1) (mvT hZ w2) hnf (mvT hZ w3) (mvT hZ w4) hy hK qa qc hg hsize (Steps.refl _) hlen hstack hW hdg (fun _ _ => ⟨rfl, eT, hcl, hsl⟩)
  dsimp only [Pt.U, Pt.locs, Pt.cells, Pt.slots] at X' l1 y1 z1 st hQ
  subst l1 y1 z1
  exact own_via st (k v T' _ Lc X' rfl hQ)
/-- an instance method that a superclass declares -/
theorem own_callU (X : Stand p l e R s m args below meth c T locs cells slots) (hx : p.tables.exec = Jvm.exec) (hZ : Z.Warmed39 s.vm) {own C owner : String} {index : Nat} {y z : MethodName} {cc ss : Nat}
    (hown : s.vm.findClass own = some m.cls) (w1 : (Jvm.Cond.methodLink own index y).before a0 Z = true) (w0 : (Jvm.Cond.sameMethod y.cls owner y.name y.desc).before a0 Z = true) (w2 : (Jvm.Cond.declares ⟨owner, y.name, y.desc⟩).before a0 Z = true) (w3 : (Jvm.Cond.selects C y z).before a0 Z = true) (w4 : (Jvm.Cond.instanceMethod z).before a0 Z = true)
    (hy : owner ≠ "java/lang/invoke/MethodHandle" ∧ owner ≠ "java/lang/invoke/VarHandle") {W : Nat} {a : Addr} {argsL rest : List Value} (hK : own_Bk l R p e below s args z W (.ref a :: argsL).toArray h cc ss Q) (eT : T.heap = h) (E : Exa Z h a C)
    {g : JFrame} (hg : g.method = m) (hsize : g.locals.size = c.maxLocals) (hlen : ∀ sig, parseMethodDescriptor y.desc = some sig → argsL.length = sig.parameters.length)
    (hstack : g.stack = argsL.reverse ++ .ref a :: rest) (hW : 2 * g.monitorRoom + (rest.map fun v => v.category).sum ≤ W) (hdg : decode c.code g.pc = .ok (.invokevirtual index, 3))
    (hcl : cells + cc ≤ R.cells) (hsl : slots + ss ≤ R.slots)
    (k : ∀ v T' h' L, Stand p l e R s m args below meth c T' (locs ++ L) (cells + cc) (slots + ss) → T'.heap = h' → Q v h' L → own_Run p e below Φ (T'.setTop { g with pc := g.pc + 3, stack := v.toList ++ rest })) : own_Run p e below Φ (T.setTop g) := by
  obtain ⟨cq, kq, qa, qb, qc⟩ := isOf hZ eT E
  obtain ⟨v, _, ⟨T', L', k', n'⟩, -, X', ⟨Lc, hQ, l1, y1, z1⟩, st⟩ := X.virtualBackUp hx (x := y) (y := z) hown (mvT hZ w1) (mvT hZ w0) (mvT hZ w2) hy (mvT hZ w3) (mvT hZ w4) hK qa qc hg hsize (Steps.refl _) hlen hstack hW hdg (fun _ _ => ⟨rfl, eT, hcl, hsl⟩)
  dsimp only [Pt.U, Pt.locs, Pt.cells, Pt.slots] at X' l1 y1 z1 st hQ
  subst l1 y1 z1
  exact own_via st (k v T' _ Lc X' rfl hQ)
/-- a private method by its contract -/
theorem own_callP (X : Stand p l e R s m args below meth c T locs cells slots) (hx : p.tables.exec = Jvm.exec) (hZ : Z.Warmed39 s.vm) {own C : String} {index : Nat} {y : MethodName} {bytes : ByteArray} {maxL : Nat} {ret : Option FieldType} {cc ss : Nat}
    (hown : s.vm.findClass own = some m.cls) (w1 : (Jvm.Cond.methodLink own index y).before a0 Z = true) (w2 : (Jvm.Cond.instanceMethod y).before a0 Z = true) (w3 : (Jvm.Cond.selects y.cls y y).before a0 Z = true) (w4 : (Jvm.Cond.privateMethod y).before a0 Z = true) (w6 : (Jvm.Cond.code y bytes maxL ret).before a0 Z = true)
    (hy : y.cls ≠ "java/lang/invoke/MethodHandle" ∧ y.cls ≠ "java/lang/invoke/VarHandle") {W : Nat} {a : Addr} {argsL rest : List Value} (hK : own_Bk l R p e below s args y W (.ref a :: argsL).toArray h cc ss Q) (eT : T.heap = h) (E : Exa Z h a C)
    {g : JFrame} (hg : g.method = m) (hsize : g.locals.size = c.maxLocals) (hlen : ∀ sig, parseMethodDescriptor y.desc = some sig → argsL.length = sig.parameters.length)
    (hstack : g.stack = argsL.reverse ++ .ref a :: rest) (hW : 2 * g.monitorRoom + (rest.map fun v => v.category).sum ≤ W) (hdg : decode c.code g.pc = .ok (.invokevirtual index, 3))
    (hcl : cells + cc ≤ R.cells) (hsl : slots + ss ≤ R.slots)
    (k : ∀ v T' h' L, Stand p l e R s m args below meth c T' (locs ++ L) (cells + cc) (slots + ss) → T'.heap = h' → Q v h' L → own_Run p e below Φ (T'.setTop { g with pc := g.pc + 3, stack := v.toList ++ rest })) : own_Run p e below Φ (T.setTop g) := by
  obtain ⟨cq, q1, q2⟩ := E.cell
  obtain ⟨v, _, ⟨T', L', k', n'⟩, -, X', ⟨Lc, hQ, l1, y1, z1⟩, st⟩ := X.privateBack hx (y := y) hown (mvT hZ w1) (mvT hZ w2) (mvT hZ w3) (Cond.privateMethod_at (mvP hZ w4 (args := #[]))) (mvT hZ w6) hy hK hg hsize (Steps.refl _) (a := a) (by rw [eT]; exact q1) q2 hlen hstack hW hdg (fun _ _ => ⟨rfl, eT, hcl, hsl⟩)
  dsimp only [Pt.U, Pt.locs, Pt.cells, Pt.slots] at X' l1 y1 z1 st hQ
  subst l1 y1 z1
  exact own_via st (k v T' _ Lc X' rfl hQ)
/-- arrays: reading -/
theorem own_iaload (X : Stand p l e R s m args below meth c T locs cells slots) (hx : p.tables.exec = Jvm.exec) (hZ : Z.Warmed39 s.vm) (eT : T.heap = h) {a : Addr} {k : ClassId} {z j : Int32} {vs : List Value} {dv v : Value} (V : Arv Z h a k .int z vs dv) (hj : ¬ j < 0 ∧ j < z) (hv : vs.getD j.toNatClampNeg dv = v)
    {g : JFrame} (hg : g.method = m) {rest : List Value} (hs : g.stack = .int j :: .ref a :: rest) (hd : decode c.code g.pc = .ok (.iaload, 1)) (r : own_Run p e below Φ (T.setTop { g with pc := g.pc + 1, stack := v :: rest })) : own_Run p e below Φ (T.setTop g) := by
  obtain ⟨cl, A, -, S, -, H, -⟩ := V
  exact own_go (fun t q => X.iaload hx (j := j) (v := v) (by rw [eT]; exact A.1) (State.isArrayOf_alike hZ.alike A.2.1) A.2.2 (inb_of S hj) (Has.at H (inb_of S hj) hv) hg hs hd t q) r
theorem own_laload (X : Stand p l e R s m args below meth c T locs cells slots) (hx : p.tables.exec = Jvm.exec) (hZ : Z.Warmed39 s.vm) (eT : T.heap = h) {a : Addr} {k : ClassId} {z j : Int32} {vs : List Value} {dv v : Value} (V : Arv Z h a k .long z vs dv) (hj : ¬ j < 0 ∧ j < z) (hv : vs.getD j.toNatClampNeg dv = v)
    {g : JFrame} (hg : g.method = m) {rest : List Value} (hs : g.stack = .int j :: .ref a :: rest) (hd : decode c.code g.pc = .ok (.laload, 1)) (r : own_Run p e below Φ (T.setTop { g with pc := g.pc + 1, stack := v :: rest })) : own_Run p e below Φ (T.setTop g) := by
  obtain ⟨cl, A, -, S, -, H, -⟩ := V
  exact own_go (fun t q => X.laload hx (j := j) (v := v) (by rw [eT]; exact A.1) (State.isArrayOf_alike hZ.alike A.2.1) A.2.2 (inb_of S hj) (Has.at H (inb_of S hj) hv) hg hs hd t q) r
theorem own_caload (X : Stand p l e R s m args below meth c T locs cells slots) (hx : p.tables.exec = Jvm.exec) (hZ : Z.Warmed39 s.vm) (eT : T.heap = h) {a : Addr} {k : ClassId} {z j : Int32} {vs : List Value} {dv v : Value} (V : Arv Z h a k .char z vs dv) (hj : ¬ j < 0 ∧ j < z) (hv : vs.getD j.toNatClampNeg dv = v)
    {g : JFrame} (hg : g.method = m) {rest : List Value} (hs : g.stack = .int j :: .ref a :: rest) (hd : decode c.code g.pc = .ok (.caload, 1)) (r : own_Run p e below Φ (T.setTop { g with pc := g.pc + 1, stack := v :: rest })) : own_Run p e below Φ (T.setTop g) := by
  obtain ⟨cl, A, -, S, -, H, -⟩ := V
  exact own_go (fun t q => X.caload hx (j := j) (v := v) (by rw [eT]; exact A.1) (State.isArrayOf_alike hZ.alike A.2.1) A.2.2 (inb_of S hj) (Has.at H (inb_of S hj) hv) hg hs hd t q) r
theorem own_baload (X : Stand p l e R s m args below meth c T locs cells slots) (hx : p.tables.exec = Jvm.exec) (hZ : Z.Warmed39 s.vm) (eT : T.heap = h) {a : Addr} {k : ClassId} {z j : Int32} {vs : List Value} {dv v : Value} (V : Arv Z h a k .byte z vs dv) (hj : ¬ j < 0 ∧ j < z) (hv : vs.getD j.toNatClampNeg dv = v)
    {g : JFrame} (hg : g.method = m) {rest : List Value} (hs : g.stack = .int j :: .ref a :: rest) (hd : decode c.code g.pc = .ok (.baload, 1)) (r : own_Run p e below Φ (T.setTop { g with pc := g.pc + 1, stack := v :: rest })) : own_Run p e below Φ (T.setTop g) := by
  obtain ⟨cl, A, -, S, -, H, -⟩ := V
  exact own_go (fun t q => X.baloadBytes hx (j := j) (v := v) (by rw [eT]; exact A.1) (State.isArrayOf_alike hZ.alike A.2.1) A.2.2 (inb_of S hj) (Has.at H (inb_of S hj) hv) hg hs hd t q) r
theorem own_arrlen (X : Stand p l e R s m args below meth c T locs cells slots) (hx : p.tables.exec = Jvm.exec) (hZ : Z.Warmed39 s.vm) (eT : T.heap = h) {a : Addr} {k : ClassId} {ty : FieldType} {z : Int32} {vs : List Value} {dv : Value} (V : Arv Z h a k ty z vs dv)
    {g : JFrame} (hg : g.method = m) {rest : List Value} (hs : g.stack = .ref a :: rest) (hd : decode c.code g.pc = .ok (.arraylength, 1)) (r : own_Run p e below Φ (T.setTop { g with pc := g.pc + 1, stack := .int z :: rest })) : own_Run p e below Φ (T.setTop g) := by
  obtain ⟨cl, A, -, S, M, -, -⟩ := V
  refine own_go (fun t q => X.arraylength hx (by rw [eT]; exact A.1) (State.isArrayOf_alike hZ.alike A.2.1) hg hs hd t q) ?_
  rw [len_of S M]; exact r
/-- arrays: writing -/
theorem own_iastore (X : Stand p l e R s m args below meth c T locs cells slots) (hx : p.tables.exec = Jvm.exec) (hZ : Z.Warmed39 s.vm) (eT : T.heap = h) {a : Addr} {k : ClassId} {z j x : Int32} {vs : List Value} {dv : Value} (V : Arv Z h a k .int z vs dv) (hj : ¬ j < 0 ∧ j < z) (i : Nat) (hi : j.toNatClampNeg = i) (hl : i < vs.length)
    {g : JFrame} (hg : g.method = m) {rest : List Value} (hs : g.stack = .int x :: .int j :: .ref a :: rest) (hd : decode c.code g.pc = .ok (.iastore, 1))
    (r : ∀ T' h', Stand p l e R s m args below meth c T' (locs ++ [⟨a, j.toNatClampNeg⟩]) cells slots → T'.heap = h' → Wr h h' a j.toNatClampNeg (.int x) → Arv Z h' a k .int z (vs.set i (.int x)) dv → own_Run p e below Φ (T'.setTop { g with pc := g.pc + 1, stack := rest })) : own_Run p e below Φ (T.setTop g) := by
  obtain ⟨cl, A, q, S, N, H, G⟩ := V
  obtain ⟨T', h', X', e', W, st⟩ := stI X hx hZ eT A (j := j) (inb_of S hj) hg hs hd
  exact own_go st (r T' h' X' e' W (Arv.set A q S N H G rfl W i hi hl))
theorem own_lastore (X : Stand p l e R s m args below meth c T locs cells slots) (hx : p.tables.exec = Jvm.exec) (hZ : Z.Warmed39 s.vm) (eT : T.heap = h) {a : Addr} {k : ClassId} {z j : Int32} {x : Int64} {vs : List Value} {dv : Value} (V : Arv Z h a k .long z vs dv) (hj : ¬ j < 0 ∧ j < z) (i : Nat) (hi : j.toNatClampNeg = i) (hl : i < vs.length)
    {g : JFrame} (hg : g.method = m) {rest : List Value} (hs : g.stack = .long x :: .int j :: .ref a :: rest) (hd : decode c.code g.pc = .ok (.lastore, 1))
    (r : ∀ T' h', Stand p l e R s m args below meth c T' (locs ++ [⟨a, j.toNatClampNeg⟩]) cells slots → T'.heap = h' → Wr h h' a j.toNatClampNeg (.long x) → Arv Z h' a k .long z (vs.set i (.long x)) dv → own_Run p e below Φ (T'.setTop { g with pc := g.pc + 1, stack := rest })) : own_Run p e below Φ (T.setTop g) := by
  obtain ⟨cl, A, q, S, N, H, G⟩ := V
  obtain ⟨T', h', X', e', W, st⟩ := stJ X hx hZ eT A (j := j) (inb_of S hj) hg hs hd
  exact own_go st (r T' h' X' e' W (Arv.set A q S N H G rfl W i hi hl))
theorem own_bastore (X : Stand p l e R s m args below meth c T locs cells slots) (hx : p.tables.exec = Jvm.exec) (hZ : Z.Warmed39 s.vm) (eT : T.heap = h) {a : Addr} {k : ClassId} {z j x : Int32} {vs : List Value} {dv : Value} (V : Arv Z h a k .byte z vs dv) (hj : ¬ j < 0 ∧ j < z) (i : Nat) (hi : j.toNatClampNeg = i) (hl : i < vs.length)
    {g : JFrame} (hg : g.method = m) {rest : List Value} (hs : g.stack = .int x :: .int j :: .ref a :: rest) (hd : decode c.code g.pc = .ok (.bastore, 1))
    (r : ∀ T' h', Stand p l e R s m args below meth c T' (locs ++ [⟨a, j.toNatClampNeg⟩]) cells slots → T'.heap = h' → Wr h h' a j.toNatClampNeg (.int x.toInt8.toInt32) → Arv Z h' a k .byte z (vs.set i (.int x.toInt8.toInt32)) dv → own_Run p e below Φ (T'.setTop { g with pc := g.pc + 1, stack := rest })) : own_Run p e below Φ (T.setTop g) := by
  obtain ⟨cl, A, q, S, N, H, G⟩ := V
  obtain ⟨T', h', X', e', W, st⟩ := stB X hx hZ eT A (j := j) (inb_of S hj) hg hs hd
  exact own_go st (r T' h' X' e' W (Arv.set A q S N H G (fits_nar_byte _) W i hi hl))
theorem own_castore (X : Stand p l e R s m args below meth c T locs cells slots) (hx : p.tables.exec = Jvm.exec) (hZ : Z.Warmed39 s.vm) (eT : T.heap = h) {a : Addr} {k : ClassId} {z j x : Int32} {vs : List Value} {dv : Value} (V : Arv Z h a k .char z vs dv) (hj : ¬ j < 0 ∧ j < z) (i : Nat) (hi : j.toNatClampNeg = i) (hl : i < vs.length)
    {g : JFrame} (hg : g.method = m) {rest : List Value} (hs : g.stack = .int x :: .int j :: .ref a :: rest) (hd : decode c.code g.pc = .ok (.castore, 1))
    (r : ∀ T' h', Stand p l e R s m args below meth c T' (locs ++ [⟨a, j.toNatClampNeg⟩]) cells slots → T'.heap = h' → Wr h h' a j.toNatClampNeg (.int (nar .char x)) → Arv Z h' a k .char z (vs.set i (.int (nar .char x))) dv → own_Run p e below Φ (T'.setTop { g with pc := g.pc + 1, stack := rest })) : own_Run p e below Φ (T.setTop g) := by
  obtain ⟨cl, A, q, S, N, H, G⟩ := V
  obtain ⟨T', h', X', e', W, st⟩ := stC X hx hZ eT A (j := j) (inb_of S hj) hg hs hd
  exact own_go st (r T' h' X' e' W (Arv.set A q S N H G (fits_nar_char _) W i hi hl))
theorem own_newP (X : Stand p l e R s m args below meth c T locs cells slots) (hx : p.tables.exec = Jvm.exec) (hZ : Z.Warmed39 s.vm) {aty : ArrayType} (w : (Jvm.Cond.arrayClass (newarray.typeOf aty)).before a0 Z = true) (eT : T.heap = h) {g : JFrame} (hg : g.method = m) (hd : decode c.code g.pc = .ok (.newarray aty, 2)) {n : Int32} {rest : List Value} (hs : g.stack = .int n :: rest)
    (hn : ¬ n < 0) (cap : Nat) (hcap : n.toNatClampNeg ≤ cap) (hb : cap * 8 ≤ 536870912) (hc : cells + 1 ≤ R.cells) (hl : slots + cap ≤ R.slots) (N : Nat)
    (r : ∀ T' h' cA a, Stand p l e R s m args below meth c T' locs (cells + 1) (slots + cap) → T'.heap = h' → Ext h h' → a = h.size → Arv Z h' a cA (newarray.typeOf aty) n (List.replicate N (defaultValue (newarray.typeOf aty))) (defaultValue (newarray.typeOf aty)) → own_Run p e below Φ (T'.setTop { g with pc := g.pc + 2, stack := .ref a :: rest })) : own_Run p e below Φ (T.setTop g) := by
  obtain ⟨T', h', cA, X', e', E, A, st⟩ := newP X hx hZ w eT hg hd hs hn hcap hb hc hl
  have V := Arv.new A hn
  have q : ∀ i, (List.replicate N (defaultValue (newarray.typeOf aty))).getD i (defaultValue (newarray.typeOf aty)) = ([] : List Value).getD i (defaultValue (newarray.typeOf aty)) := pad_rep [] (defaultValue (newarray.typeOf aty)) N
  exact own_go st (r T' h' cA h.size X' e' E rfl (V.pad q))
theorem own_le {a b c d : Nat} (h1 : a ≤ b) (h2 : b + c ≤ d) : a + c ≤ d := Nat.le_trans (Nat.add_le_add_right h1 c) h2
/-- the case's words on statics -/
theorem own_eqI {args : Array Value} {first s : State} {o : Option Outcome} {idx : List Nat} {t : Term} {k : Int32} (h : (Jvm.Cond.eq t (.int k)).value args first o s idx = some true) : t.eval args first o idx s = some (.int k) := by
  cases ht : t.eval args first o idx s with
  | none => simp [Cond.value, ht] at h
  | some x => cases x <;> simp [Cond.value, Term.eval, ht] at h ⊢; exact h
theorem own_fldI {args : Array Value} {t : Term} {x : Addr} {C n d : String} {k : Int32} (ht : t.eval args Z none [] Z = some (.ref x)) (h : (Jvm.Cond.eq (.field t C n d) (.int k)).value args Z none Z [] = some true) : Fld Z Z.heap x C n d (.int k) := Fld.start ((fld_at ht).symm.trans (own_eqI h))
end OwnRun
section OwnDbl
variable {p : Program} {l : Launch} {e : Env} {R : Room} {s : State} {m : MethodId} {args : Array Value} {below : List Frame} {meth : Method} {c : Code} {T : State} {locs : List Loc} {cells slots : Nat} {Φ : State → Prop} {S S' : State} {Z : State} {a0 : Array Value} {h : Heap}
theorem own_dc0 : FP.dconst0 = FP.l2d (0 : Int64) := by decide +kernel
theorem own_dc1 : FP.dconst1 = FP.l2d (1 : Int64) := by decide +kernel
theorem own_b53 (x : Int32) : B53 x.toInt64 := by
  have := rng32 x; unfold B53; rw [c_i2l]; omega
theorem own_b53' (x : Int32) : B53 (x.toInt64 + (1 : Int64)) := by
  have := rng32 x; have h := c_ladd x.toInt64 (1 : Int64); have := rng64 (x.toInt64 + (1 : Int64)); rw [c_i2l] at h
  simp only [Int64.reduceToInt] at h; unfold B53; omega
theorem own_b1 : B53 (1 : Int64) := ⟨by decide, by decide⟩
theorem own_b0 : B53 (0 : Int64) := ⟨by decide, by decide⟩
theorem own_mul1 (x : Int32) : FP.dmul (FP.l2d (1 : Int64)) (FP.l2d x.toInt64) = FP.l2d x.toInt64 := by
  by_cases q : x.toInt64 = 0
  · rw [dmul_z own_b1 (own_b53 x) (Or.inr q), q]; decide +kernel
  · have := rng32 x
    have e1 : (1 : Int64).toInt = 1 := rfl
    rw [dmul_w own_b1 (own_b53 x) (by decide) q (by rw [c_i2l, e1]; omega) (by rw [c_i2l, e1]; omega)]
    rw [Int64.one_mul]
theorem own_add0 (x : Int32) : FP.dadd (FP.l2d (0 : Int64)) (FP.l2d x.toInt64) = FP.l2d x.toInt64 := by
  rw [dadd_w own_b0 (own_b53 x), Int64.zero_add]
theorem own_dself (x : Int64) (o : CmpOp) : cmpValue (FP.dcmp (FP.l2d x) (FP.l2d x)) o = 0 := dcmpV_self (nn_w rfl) o
theorem own_daload (X : Stand p l e R s m args below meth c T locs cells slots) (hx : p.tables.exec = Jvm.exec) (hZ : Z.Warmed39 s.vm) (eT : T.heap = h) {a : Addr} {k : ClassId} {z j : Int32} {vs : List Value} {dv v : Value} (V : Arv Z h a k .double z vs dv) (hj : ¬ j < 0 ∧ j < z) (hv : vs.getD j.toNatClampNeg dv = v)
    {g : JFrame} (hg : g.method = m) {rest : List Value} (hs : g.stack = .int j :: .ref a :: rest) (hd : decode c.code g.pc = .ok (.daload, 1)) (r : own_Run p e below Φ (T.setTop { g with pc := g.pc + 1, stack := v :: rest })) : own_Run p e below Φ (T.setTop g) := by
  obtain ⟨cl, A, -, S, -, H, -⟩ := V
  exact own_go (fun t q => X.daload hx (j := j) (v := v) (by rw [eT]; exact A.1) (State.isArrayOf_alike hZ.alike A.2.1) A.2.2 (inb_of S hj) (Has.at H (inb_of S hj) hv) hg hs hd t q) r
theorem own_dastore (X : Stand p l e R s m args below meth c T locs cells slots) (hx : p.tables.exec = Jvm.exec) (hZ : Z.Warmed39 s.vm) (eT : T.heap = h) {a : Addr} {k : ClassId} {z j : Int32} {x : UInt64} {vs : List Value} {dv : Value} (V : Arv Z h a k .double z vs dv) (hj : ¬ j < 0 ∧ j < z) (i : Nat) (hi : j.toNatClampNeg = i) (hl : i < vs.length)
    {g : JFrame} (hg : g.method = m) {rest : List Value} (hs : g.stack = .double x :: .int j :: .ref a :: rest) (hd : decode c.code g.pc = .ok (.dastore, 1))
    (r : ∀ T' h', Stand p l e R s m args below meth c T' (locs ++ [⟨a, j.toNatClampNeg⟩]) cells slots → T'.heap = h' → Wr h h' a j.toNatClampNeg (.double x) → Arv Z h' a k .double z (vs.set i (.double x)) dv → own_Run p e below Φ (T'.setTop { g with pc := g.pc + 1, stack := rest })) : own_Run p e below Φ (T.setTop g) := by
  obtain ⟨cl, A, q, S, N, H, G⟩ := V
  obtain ⟨T', h', X', e', W, st⟩ := stD X hx hZ eT A (j := j) (inb_of S hj) hg hs hd
  exact own_go st (r T' h' X' e' W (Arv.set A q S N H G rfl W i hi hl))
end OwnDbl
theorem own_and3 (x : Int32) : x &&& (3 : Int32) = (0 : Int32) ∨ x &&& (3 : Int32) = (1 : Int32) ∨ x &&& (3 : Int32) = (2 : Int32) ∨ x &&& (3 : Int32) = (3 : Int32) := by
  have h := c_mask x 3 2 (by decide) (by decide)
  simp only [← Int32.toInt_inj, Int32.reduceToInt]
  omega
theorem d2_0 : decode prog_104_method_1_code 0 = .ok (.aload_n 0, 1) := by decide +kernel
theorem d2_1 : decode prog_104_method_1_code 1 = .ok (.invokespecial 1, 3) := by decide +kernel
theorem d2_4 : decode prog_104_method_1_code 4 = .ok (.aload_n 0, 1) := by decide +kernel
theorem d2_5 : decode prog_104_method_1_code 5 = .ok (.dload_n 1, 1) := by decide +kernel
theorem d2_6 : decode prog_104_method_1_code 6 = .ok (.putfield 7, 3) := by decide +kernel
theorem d2_9 : decode prog_104_method_1_code 9 = .ok (.aload_n 0, 1) := by decide +kernel
theorem d2_10 : decode prog_104_method_1_code 10 = .ok (.aload_n 3, 1) := by decide +kernel
theorem d2_11 : decode prog_104_method_1_code 11 = .ok (.putfield 13, 3) := by decide +kernel
theorem d2_14 : decode prog_104_method_1_code 14 = .ok (.aload_n 0, 1) := by decide +kernel
theorem d2_15 : decode prog_104_method_1_code 15 = .ok (.aload 4, 2) := by decide +kernel
theorem d2_17 : decode prog_104_method_1_code 17 = .ok (.putfield 17, 3) := by decide +kernel
theorem d2_20 : decode prog_104_method_1_code 20 = .ok (.return_, 1) := by decide +kernel
theorem pn_c1 : plainName "com/example/penumbra/penumbra/reasoner/Linear" = true := by first | (simp [plainName, overriddenIn]; done) | decide +kernel
theorem ef_2_RDRR (m : MethodId) (x0 : Addr) (x1 : UInt64) (x2 : Addr) (x3 : Addr) : entryFrame m #[(.ref x0), (.double x1), (.ref x2), (.ref x3)] 5 = mkF m 0 #[.val (.ref x0), .val (.double x1), .second, .val (.ref x2), .val (.ref x3)] [] := by first | (simp [entryFrame, mkF, argsToLocals, Value.category]; done) | rfl
set_option maxRecDepth 65536 in
set_option maxHeartbeats 40000000 in
theorem rm_init (l : Launch) (Z : State) (a0 : Array Value) (hw : ∀ d ∈ tables_1, d.before a0 Z = true) (a1 : Addr) (d2 : UInt64) (a3 : Addr) (a4 : Addr) (h0 : Heap) (n0 : Nat) (H1 : Exa Z h0 a1 "com/example/penumbra/penumbra/reasoner/Linear") (H2 : Fld Z h0 a1 "com/example/penumbra/penumbra/reasoner/Linear" "constant" "D" (.double 0)) (H3 : Fld Z h0 a1 "com/example/penumbra/penumbra/reasoner/Linear" "variables" "[I" .null) (H4 : Fld Z h0 a1 "com/example/penumbra/penumbra/reasoner/Linear" "coefficients" "[D" .null) (H5 : n0 ≤ a1) :
    own_Met l Z (⟨"com/example/penumbra/penumbra/reasoner/Linear", "<init>", "(D[I[D)V"⟩ : MethodName) prog_104_method_1_code 5 none ({ frames := 1, cells := 0, slots := 0, locals := 12 } : Room) #[(.ref a1), (.double d2), (.ref a3), (.ref a4)] h0 (fun v h L => v = none ∧ Fr n0 L ∧ Keep h0 h [a1] ∧ Fld Z h a1 "com/example/penumbra/penumbra/reasoner/Linear" "constant" "D" (.double d2) ∧ Fld Z h a1 "com/example/penumbra/penumbra/reasoner/Linear" "variables" "[I" (.ref a3) ∧ Fld Z h a1 "com/example/penumbra/penumbra/reasoner/Linear" "coefficients" "[D" (.ref a4)) := by
  intro ws
  refine MetFree.of_bodySF (plainFor_of_name pn_c1) hisR ?_
  intro p e s m args below meth c s₁ Bd hml0 hP hK
  obtain ⟨rfl, hZ, hh⟩ := hP
  have hx := Bd.exec
  have hby := Bd.bytes
  have hml : c.maxLocals = 5 := hml0
  have hown : s.vm.findClass "com/example/penumbra/penumbra/reasoner/Linear" = some m.cls := findClass_of_methodNamed Bd.named
  have hnm := (name_of_methodNamed Bd.named Bd.method).1
  have hlk : meth.locks = false := Bd.notSynchronized
  have X0 : Stand p l e ({ frames := 1, cells := 0, slots := 0, locals := 12 } : Room) s m #[(.ref a1), (.double d2), (.ref a3), (.ref a4)] below meth c s₁ [] 0 0 := Stand.of_body Bd
  have e0 : s₁.heap = h0 := by rw [← hh, Bd.state]; rfl
  have N0 := Fr.nil n0
  refine own_body (Q := fun v h L => v = none ∧ Fr n0 L ∧ Keep h0 h [a1] ∧ Fld Z h a1 "com/example/penumbra/penumbra/reasoner/Linear" "constant" "D" (.double d2) ∧ Fld Z h a1 "com/example/penumbra/penumbra/reasoner/Linear" "variables" "[I" (.ref a3) ∧ Fld Z h a1 "com/example/penumbra/penumbra/reasoner/Linear" "coefficients" "[D" (.ref a4)) ?_
  generalize hΦ : own_Fin s below _ _ _ = Φ
  refine own_cast (ef_2_RDRR m a1 d2 a3 a4) ?_
  have K0 := Keep.refl h0 [a1]
  show own_Run p e below Φ (s₁.setTop (mkF m 0 #[.val (.ref a1), .val (.double d2), .second, .val (.ref a3), .val (.ref a4)] []))
  refine own_go (fun t k => XS.aloadN X0.here hx rfl (hb hby d2_0) rfl rfl  k) ?_
  obtain ⟨T1, X1, e1, st1⟩ := initO X0 hx hZ hown (hw _ (List.mem_of_getElem? (i := 11) rfl)) (hw _ (List.mem_of_getElem? (i := 12) rfl)) (hw _ (List.mem_of_getElem? (i := 13) rfl)) e0 (g := (mkF m 1 #[.val (.ref a1), .val (.double d2), .second, .val (.ref a3), .val (.ref a4)] [(.ref a1)])) rfl (by rw [hml]; rfl) rfl (hb hby d2_1) (by decide) (W := 0) (by show 2 * 0 + _ ≤ _; exact Nat.le_of_eq rfl) (by decide)
  refine own_go st1 ?_
  refine own_go (fun t k => XS.aloadN X1.here hx rfl (hb hby d2_4) rfl rfl  k) ?_
  refine own_go (fun t k => XS.dloadN X1.here hx rfl (hb hby d2_5) rfl  k) ?_
  obtain ⟨T2, h2, X2, e2, W2, st2⟩ := putF X1 hx hZ hown (host := "") (Or.inl (hw _ (List.mem_of_getElem? (i := 14) rfl))) Via.refl e1 H2 H1 (Or.inr ⟨(hw _ (List.mem_of_getElem? (i := 15) rfl)), rfl, hnm⟩) (hw _ (List.mem_of_getElem? (i := 5) rfl)) (ty := .double) (by decide) rfl rfl (g := (mkF m 6 #[.val (.ref a1), .val (.double d2), .second, .val (.ref a3), .val (.ref a4)] [(.double d2), (.ref a1)])) rfl rfl (hb hby d2_6)
  refine own_go st2 ?_
  have G2 : Fld Z h2 a1 "com/example/penumbra/penumbra/reasoner/Linear" "constant" "D" (.double d2) := H2.same W2
  have N2 := Fr.snoc X2 N0 H5
  show own_Run p e below Φ (T2.setTop (mkF m 9 #[.val (.ref a1), .val (.double d2), .second, .val (.ref a3), .val (.ref a4)] []))
  refine own_go (fun t k => XS.aloadN X2.here hx rfl (hb hby d2_9) rfl rfl  k) ?_
  refine own_go (fun t k => XS.aloadN X2.here hx rfl (hb hby d2_10) rfl rfl  k) ?_
  have F3 : Fld Z h2 a1 "com/example/penumbra/penumbra/reasoner/Linear" "variables" "[I" .null := (H3.other W2 (Or.inr (slot_ne (Or.inr (hw _ (List.mem_of_getElem? (i := 17) rfl))) (Or.inr (hw _ (List.mem_of_getElem? (i := 15) rfl))) (by decide) (t := (.array .int)) (t' := .double) (by decide) (by decide))))
  have F4 : Exa Z h2 a1 "com/example/penumbra/penumbra/reasoner/Linear" := (H1.wr W2)
  obtain ⟨T5, h5, X5, e5, W5, st5⟩ := putF X2 hx hZ hown (host := "") (Or.inl (hw _ (List.mem_of_getElem? (i := 16) rfl))) Via.refl e2 F3 F4 (Or.inr ⟨(hw _ (List.mem_of_getElem? (i := 17) rfl)), rfl, hnm⟩) (hw _ (List.mem_of_getElem? (i := 5) rfl)) (ty := (.array .int)) (by decide) rfl rfl (g := (mkF m 11 #[.val (.ref a1), .val (.double d2), .second, .val (.ref a3), .val (.ref a4)] [(.ref a3), (.ref a1)])) rfl rfl (hb hby d2_11)
  refine own_go st5 ?_
  have G5 : Fld Z h5 a1 "com/example/penumbra/penumbra/reasoner/Linear" "variables" "[I" (.ref a3) := F3.same W5
  have N5 := Fr.snoc X5 N2 H5
  refine own_go (fun t k => XS.aloadN X5.here hx rfl (hb hby d2_14) rfl rfl  k) ?_
  refine own_go (fun t k => XS.aload X5.here hx rfl (hb hby d2_15) rfl rfl  k) ?_
  show own_Run p e below Φ (T5.setTop (mkF m 17 #[.val (.ref a1), .val (.double d2), .second, .val (.ref a3), .val (.ref a4)] [(.ref a4), (.ref a1)]))
  have F6 : Fld Z h5 a1 "com/example/penumbra/penumbra/reasoner/Linear" "coefficients" "[D" .null := ((H4.other W2 (Or.inr (slot_ne (Or.inr (hw _ (List.mem_of_getElem? (i := 19) rfl))) (Or.inr (hw _ (List.mem_of_getElem? (i := 15) rfl))) (by decide) (t := (.array .double)) (t' := .double) (by decide) (by decide)))).other W5 (Or.inr (slot_ne (Or.inr (hw _ (List.mem_of_getElem? (i := 19) rfl))) (Or.inr (hw _ (List.mem_of_getElem? (i := 17) rfl))) (by decide) (t := (.array .double)) (t' := (.array .int)) (by decide) (by decide))))
  have F7 : Exa Z h5 a1 "com/example/penumbra/penumbra/reasoner/Linear" := (F4.wr W5)
  obtain ⟨T8, h8, X8, e8, W8, st8⟩ := putF X5 hx hZ hown (host := "") (Or.inl (hw _ (List.mem_of_getElem? (i := 18) rfl))) Via.refl e5 F6 F7 (Or.inr ⟨(hw _ (List.mem_of_getElem? (i := 19) rfl)), rfl, hnm⟩) (hw _ (List.mem_of_getElem? (i := 5) rfl)) (ty := (.array .double)) (by decide) rfl rfl (g := (mkF m 17 #[.val (.ref a1), .val (.double d2), .second, .val (.ref a3), .val (.ref a4)] [(.ref a4), (.ref a1)])) rfl rfl (hb hby d2_17)
  refine own_go st8 ?_
  have G8 : Fld Z h8 a1 "com/example/penumbra/penumbra/reasoner/Linear" "coefficients" "[D" (.ref a4) := F6.same W8
  have N8 := Fr.snoc X8 N5 H5
  have F9 : Keep h0 h8 [a1] := (((K0.wr W2 (Or.inl (List.mem_of_getElem? (i := 0) rfl))).wr W5 (Or.inl (List.mem_of_getElem? (i := 0) rfl))).wr W8 (Or.inl (List.mem_of_getElem? (i := 0) rfl)))
  have F10 : Fld Z h8 a1 "com/example/penumbra/penumbra/reasoner/Linear" "constant" "D" (.double d2) := ((G2.other W5 (Or.inr (slot_ne (Or.inr (hw _ (List.mem_of_getElem? (i := 15) rfl))) (Or.inr (hw _ (List.mem_of_getElem? (i := 17) rfl))) (by decide) (t := .double) (t' := (.array .int)) (by decide) (by decide)))).other W8 (Or.inr (slot_ne (Or.inr (hw _ (List.mem_of_getElem? (i := 15) rfl))) (Or.inr (hw _ (List.mem_of_getElem? (i := 19) rfl))) (by decide) (t := .double) (t' := (.array .double)) (by decide) (by decide))))
  have F11 : Fld Z h8 a1 "com/example/penumbra/penumbra/reasoner/Linear" "variables" "[I" (.ref a3) := (G5.other W8 (Or.inr (slot_ne (Or.inr (hw _ (List.mem_of_getElem? (i := 17) rfl))) (Or.inr (hw _ (List.mem_of_getElem? (i := 19) rfl))) (by decide) (t := (.array .int)) (t' := (.array .double)) (by decide) (by decide))))
  subst hΦ
  exact own_retV X8 hx Bd.returns hlk (hb hby d2_20) e8 ⟨rfl, N8, F9, F10, F11, G8⟩ (by decide) (by decide)
theorem d4_0 : decode prog_104_method_9_code 0 = .ok (.aload_n 0, 1) := by decide +kernel
theorem d4_1 : decode prog_104_method_9_code 1 = .ok (.getfield 7, 3) := by decide +kernel
theorem d4_4 : decode prog_104_method_9_code 4 = .ok (.dreturn, 1) := by decide +kernel
theorem ef_4_R (m : MethodId) (x0 : Addr) : entryFrame m #[(.ref x0)] 1 = mkF m 0 #[.val (.ref x0)] [] := by first | (simp [entryFrame, mkF, argsToLocals, Value.category]; done) | rfl
set_option maxRecDepth 65536 in
set_option maxHeartbeats 40000000 in
theorem rm_const (l : Launch) (Z : State) (a0 : Array Value) (hw : ∀ d ∈ tables_1, d.before a0 Z = true) (a1 : Addr) (d2 : UInt64) (h0 : Heap) (n0 : Nat) (H1 : Fld Z h0 a1 "com/example/penumbra/penumbra/reasoner/Linear" "constant" "D" (.double d2)) :
    own_Met l Z (⟨"com/example/penumbra/penumbra/reasoner/Linear", "constant", "()D"⟩ : MethodName) prog_104_method_9_code 1 (some .double) ({ frames := 0, cells := 0, slots := 0, locals := 0 } : Room) #[(.ref a1)] h0 (fun v h L => v = some (.double d2) ∧ Fr n0 L ∧ h = h0) := by
  intro ws
  refine MetFree.of_bodySF (plainFor_of_name pn_c1) hisR ?_
  intro p e s m args below meth c s₁ Bd hml0 hP hK
  obtain ⟨rfl, hZ, hh⟩ := hP
  have hx := Bd.exec
  have hby := Bd.bytes
  have hml : c.maxLocals = 1 := hml0
  have hown : s.vm.findClass "com/example/penumbra/penumbra/reasoner/Linear" = some m.cls := findClass_of_methodNamed Bd.named
  have hnm := (name_of_methodNamed Bd.named Bd.method).1
  have hlk : meth.locks = false := Bd.notSynchronized
  have X0 : Stand p l e ({ frames := 0, cells := 0, slots := 0, locals := 0 } : Room) s m #[(.ref a1)] below meth c s₁ [] 0 0 := Stand.of_body Bd
  have e0 : s₁.heap = h0 := by rw [← hh, Bd.state]; rfl
  have N0 := Fr.nil n0
  refine own_body (Q := fun v h L => v = some (.double d2) ∧ Fr n0 L ∧ h = h0) ?_
  generalize hΦ : own_Fin s below _ _ _ = Φ
  refine own_cast (ef_4_R m a1) ?_
  show own_Run p e below Φ (s₁.setTop (mkF m 0 #[.val (.ref a1)] []))
  refine own_go (fun t k => XS.aloadN X0.here hx rfl (hb hby d4_0) rfl rfl  k) ?_
  obtain ⟨T1, X1, e1, st1⟩ := getF X0 hx hZ hown (host := "") (Or.inl (hw _ (List.mem_of_getElem? (i := 14) rfl))) Via.refl e0 H1 (g := (mkF m 1 #[.val (.ref a1)] [(.ref a1)])) rfl rfl (hb hby d4_1)
  refine own_go st1 ?_
  subst hΦ
  exact own_retO X1 hx (t := .double) Bd.returns rfl (Or.inr (Or.inr (Or.inl ⟨rfl, rfl, _, rfl⟩))) hlk (hb hby d4_4) e1 ⟨rfl, N0, rfl⟩ (by decide) (by decide)
theorem d5_0 : decode prog_104_method_11_code 0 = .ok (.aload_n 0, 1) := by decide +kernel
theorem d5_1 : decode prog_104_method_11_code 1 = .ok (.getfield 13, 3) := by decide +kernel
theorem d5_4 : decode prog_104_method_11_code 4 = .ok (.arraylength, 1) := by decide +kernel
theorem d5_5 : decode prog_104_method_11_code 5 = .ok (.ireturn, 1) := by decide +kernel
theorem ef_5_R (m : MethodId) (x0 : Addr) : entryFrame m #[(.ref x0)] 1 = mkF m 0 #[.val (.ref x0)] [] := by first | (simp [entryFrame, mkF, argsToLocals, Value.category]; done) | rfl
set_option maxRecDepth 65536 in
set_option maxHeartbeats 40000000 in
theorem rm_size (l : Launch) (Z : State) (a0 : Array Value) (hw : ∀ d ∈ tables_1, d.before a0 Z = true) (a1 : Addr) (a2 : Addr) (k2 : ClassId) (n2 : Int32) (us : List Value) (h0 : Heap) (n0 : Nat) (H1 : Fld Z h0 a1 "com/example/penumbra/penumbra/reasoner/Linear" "variables" "[I" (.ref a2)) (H2 : Arv Z h0 a2 k2 .int n2 us (.int (0 : Int32))) :
    own_Met l Z (⟨"com/example/penumbra/penumbra/reasoner/Linear", "size", "()I"⟩ : MethodName) prog_104_method_11_code 1 (some .int) ({ frames := 0, cells := 0, slots := 0, locals := 0 } : Room) #[(.ref a1)] h0 (fun v h L => v = some (.int n2) ∧ Fr n0 L ∧ h = h0) := by
  intro ws
  refine MetFree.of_bodySF (plainFor_of_name pn_c1) hisR ?_
  intro p e s m args below meth c s₁ Bd hml0 hP hK
  obtain ⟨rfl, hZ, hh⟩ := hP
  have hx := Bd.exec
  have hby := Bd.bytes
  have hml : c.maxLocals = 1 := hml0
  have hown : s.vm.findClass "com/example/penumbra/penumbra/reasoner/Linear" = some m.cls := findClass_of_methodNamed Bd.named
  have hnm := (name_of_methodNamed Bd.named Bd.method).1
  have hlk : meth.locks = false := Bd.notSynchronized
  have X0 : Stand p l e ({ frames := 0, cells := 0, slots := 0, locals := 0 } : Room) s m #[(.ref a1)] below meth c s₁ [] 0 0 := Stand.of_body Bd
  have e0 : s₁.heap = h0 := by rw [← hh, Bd.state]; rfl
  have N0 := Fr.nil n0
  refine own_body (Q := fun v h L => v = some (.int n2) ∧ Fr n0 L ∧ h = h0) ?_
  generalize hΦ : own_Fin s below _ _ _ = Φ
  refine own_cast (ef_5_R m a1) ?_
  show own_Run p e below Φ (s₁.setTop (mkF m 0 #[.val (.ref a1)] []))
  refine own_go (fun t k => XS.aloadN X0.here hx rfl (hb hby d5_0) rfl rfl  k) ?_
  obtain ⟨T1, X1, e1, st1⟩ := getF X0 hx hZ hown (host := "") (Or.inl (hw _ (List.mem_of_getElem? (i := 16) rfl))) Via.refl e0 H1 (g := (mkF m 1 #[.val (.ref a1)] [(.ref a1)])) rfl rfl (hb hby d5_1)
  refine own_go st1 ?_
  refine own_arrlen X1 hx hZ e1 H2 (g := (mkF m 4 #[.val (.ref a1)] [(.ref a2)])) rfl rfl (hb hby d5_4) ?_
  subst hΦ
  exact own_retI X1 hx Bd.returns hlk (hb hby d5_5) e1 ⟨rfl, N0, rfl⟩ (by decide) (by decide)
theorem d9_0 : decode prog_104_method_17_code 0 = .ok (.iconst 0, 1) := by decide +kernel
theorem d9_1 : decode prog_104_method_17_code 1 = .ok (.istore_n 3, 1) := by decide +kernel
theorem d9_2 : decode prog_104_method_17_code 2 = .ok (.iload_n 3, 1) := by decide +kernel
theorem d9_3 : decode prog_104_method_17_code 3 = .ok (.iload_n 2, 1) := by decide +kernel
theorem d9_4 : decode prog_104_method_17_code 4 = .ok (.if_icmp .ge 18, 3) := by decide +kernel
theorem d9_7 : decode prog_104_method_17_code 7 = .ok (.aload_n 1, 1) := by decide +kernel
theorem d9_8 : decode prog_104_method_17_code 8 = .ok (.iload_n 3, 1) := by decide +kernel
theorem d9_9 : decode prog_104_method_17_code 9 = .ok (.iaload, 1) := by decide +kernel
theorem d9_10 : decode prog_104_method_17_code 10 = .ok (.iload_n 0, 1) := by decide +kernel
theorem d9_11 : decode prog_104_method_17_code 11 = .ok (.if_icmp .ne 5, 3) := by decide +kernel
theorem d9_14 : decode prog_104_method_17_code 14 = .ok (.iload_n 3, 1) := by decide +kernel
theorem d9_15 : decode prog_104_method_17_code 15 = .ok (.ireturn, 1) := by decide +kernel
theorem d9_16 : decode prog_104_method_17_code 16 = .ok (.iinc 3 1, 3) := by decide +kernel
theorem d9_19 : decode prog_104_method_17_code 19 = .ok (.goto (-17), 3) := by decide +kernel
theorem d9_22 : decode prog_104_method_17_code 22 = .ok (.iconst (-1), 1) := by decide +kernel
theorem d9_23 : decode prog_104_method_17_code 23 = .ok (.ireturn, 1) := by decide +kernel
theorem ef_9_IRI (m : MethodId) (x0 : Int32) (x1 : Addr) (x2 : Int32) : entryFrame m #[(.int x0), (.ref x1), (.int x2)] 4 = mkF m 0 #[.val (.int x0), .val (.ref x1), .val (.int x2), .unset] [] := by first | (simp [entryFrame, mkF, argsToLocals, Value.category]; done) | rfl
set_option maxRecDepth 65536 in
set_option maxHeartbeats 40000000 in
theorem rm_idx (l : Launch) (Z : State) (a0 : Array Value) (hw : ∀ d ∈ tables_1, d.before a0 Z = true) (p1 : Int32) (a2 : Addr) (k2 : ClassId) (x0 : Int32) (h0 : Heap) (n0 : Nat) (H1 : Arv Z h0 a2 k2 .int (1 : Int32) [(.int x0)] (.int (0 : Int32))) :
    own_Met l Z (⟨"com/example/penumbra/penumbra/reasoner/Linear", "indexOf", "(I[II)I"⟩ : MethodName) prog_104_method_17_code 4 (some .int) ({ frames := 0, cells := 0, slots := 0, locals := 0 } : Room) #[(.int p1), (.ref a2), (.int (1 : Int32))] h0 (fun v h L => v = some (.int (if x0 = p1 then (0 : Int32) else (-1 : Int32))) ∧ Fr n0 L ∧ h = h0) := by
  intro ws
  refine MetFree.of_bodySF (plainFor_of_name pn_c1) hisR ?_
  intro p e s m args below meth c s₁ Bd hml0 hP hK
  obtain ⟨rfl, hZ, hh⟩ := hP
  have hx := Bd.exec
  have hby := Bd.bytes
  have hml : c.maxLocals = 4 := hml0
  have hown : s.vm.findClass "com/example/penumbra/penumbra/reasoner/Linear" = some m.cls := findClass_of_methodNamed Bd.named
  have hnm := (name_of_methodNamed Bd.named Bd.method).1
  have hlk : meth.locks = false := Bd.notSynchronized
  have X0 : Stand p l e ({ frames := 0, cells := 0, slots := 0, locals := 0 } : Room) s m #[(.int p1), (.ref a2), (.int (1 : Int32))] below meth c s₁ [] 0 0 := Stand.of_body Bd
  have e0 : s₁.heap = h0 := by rw [← hh, Bd.state]; rfl
  have N0 := Fr.nil n0
  refine own_body (Q := fun v h L => v = some (.int (if x0 = p1 then (0 : Int32) else (-1 : Int32))) ∧ Fr n0 L ∧ h = h0) ?_
  generalize hΦ : own_Fin s below _ _ _ = Φ
  refine own_cast (ef_9_IRI m p1 a2 (1 : Int32)) ?_
  show own_Run p e below Φ (s₁.setTop (mkF m 0 #[.val (.int p1), .val (.ref a2), .val (.int (1 : Int32)), .unset] []))
  refine own_go (fun t k => XS.iconst X0.here hx rfl (hb hby d9_0) k) ?_
  refine own_go (fun t k => XS.istoreN X0.here hx rfl (hb hby d9_1) rfl (l' := #[.val (.int p1), .val (.ref a2), .val (.int (1 : Int32)), .val (.int (0 : Int32))]) rfl k) ?_
  refine own_go (fun t k => XS.iloadN X0.here hx rfl (hb hby d9_2) rfl  k) ?_
  refine own_go (fun t k => XS.iloadN X0.here hx rfl (hb hby d9_3) rfl  k) ?_
  refine own_go (fun t k => XS.icmpNo X0.here hx rfl (hb hby d9_4) rfl (tlt (by decide : (0 : Int32) < (1 : Int32))).2.1 k) ?_
  show own_Run p e below Φ (s₁.setTop (mkF m 7 #[.val (.int p1), .val (.ref a2), .val (.int (1 : Int32)), .val (.int (0 : Int32))] []))
  refine own_go (fun t k => XS.aloadN X0.here hx rfl (hb hby d9_7) rfl rfl  k) ?_
  refine own_go (fun t k => XS.iloadN X0.here hx rfl (hb hby d9_8) rfl  k) ?_
  refine own_iaload X0 hx hZ e0 H1 (j := (0 : Int32)) (v := (.int x0)) ⟨by decide, by decide⟩ rfl (g := (mkF m 9 #[.val (.int p1), .val (.ref a2), .val (.int (1 : Int32)), .val (.int (0 : Int32))] [(.int (0 : Int32)), (.ref a2)])) rfl rfl (hb hby d9_9) ?_
  refine own_go (fun t k => XS.iloadN X0.here hx rfl (hb hby d9_10) rfl  k) ?_
  by_cases hc11 : x0 = p1
  · refine own_go (fun t k => XS.icmpNo X0.here hx rfl (hb hby d9_11) rfl (teq hc11).2 k) ?_
    show own_Run p e below Φ (s₁.setTop (mkF m 14 #[.val (.int p1), .val (.ref a2), .val (.int (1 : Int32)), .val (.int (0 : Int32))] []))
    refine own_go (fun t k => XS.iloadN X0.here hx rfl (hb hby d9_14) rfl  k) ?_
    subst hΦ
    exact own_retI X0 hx Bd.returns hlk (hb hby d9_15) e0 ⟨(by rw [if_pos hc11]), N0, rfl⟩ (by decide) (by decide)
  · refine own_go (fun t k => XS.icmpYes X0.here hx rfl (pc0 := 11) (pc' := 16) rfl (hb hby d9_11) rfl (feq hc11).2 (by decide) (by decide) k) ?_
    refine own_go (fun t k => XS.iinc X0.here hx rfl (hb hby d9_16) rfl (l' := #[.val (.int p1), .val (.ref a2), .val (.int (1 : Int32)), .val (.int ((0 : Int32) + (1 : Int32)))]) rfl k) ?_
    show own_Run p e below Φ (s₁.setTop (mkF m 19 #[.val (.int p1), .val (.ref a2), .val (.int (1 : Int32)), .val (.int ((0 : Int32) + (1 : Int32)))] []))
    rw [show ((0 : Int32) + (1 : Int32)) = (1 : Int32) from by decide]
    show own_Run p e below Φ (s₁.setTop (mkF m 19 #[.val (.int p1), .val (.ref a2), .val (.int (1 : Int32)), .val (.int (1 : Int32))] []))
    refine own_go (fun t k => XS.goto X0.here hx rfl (pc0 := 19) (pc' := 2) rfl (hb hby d9_19) (by decide) (by decide) k) ?_
    refine own_go (fun t k => XS.iloadN X0.here hx rfl (hb hby d9_2) rfl  k) ?_
    refine own_go (fun t k => XS.iloadN X0.here hx rfl (hb hby d9_3) rfl  k) ?_
    refine own_go (fun t k => XS.icmpYes X0.here hx rfl (pc0 := 4) (pc' := 22) rfl (hb hby d9_4) rfl (flt (by decide : ¬ ((1 : Int32) < (1 : Int32)))).2.1 (by decide) (by decide) k) ?_
    refine own_go (fun t k => XS.iconst X0.here hx rfl (hb hby d9_22) k) ?_
    show own_Run p e below Φ (s₁.setTop (mkF m 23 #[.val (.int p1), .val (.ref a2), .val (.int (1 : Int32)), .val (.int (1 : Int32))] [(.int (-1 : Int32))]))
    subst hΦ
    exact own_retI X0 hx Bd.returns hlk (hb hby d9_23) e0 ⟨(by rw [if_neg hc11]), N0, rfl⟩ (by decide) (by decide)
theorem d8_0 : decode prog_104_method_14_code 0 = .ok (.iload_n 1, 1) := by decide +kernel
theorem d8_1 : decode prog_104_method_14_code 1 = .ok (.aload_n 0, 1) := by decide +kernel
theorem d8_2 : decode prog_104_method_14_code 2 = .ok (.getfield 13, 3) := by decide +kernel
theorem d8_5 : decode prog_104_method_14_code 5 = .ok (.aload_n 0, 1) := by decide +kernel
theorem d8_6 : decode prog_104_method_14_code 6 = .ok (.getfield 13, 3) := by decide +kernel
theorem d8_9 : decode prog_104_method_14_code 9 = .ok (.arraylength, 1) := by decide +kernel
theorem d8_10 : decode prog_104_method_14_code 10 = .ok (.invokestatic 64, 3) := by decide +kernel
theorem d8_13 : decode prog_104_method_14_code 13 = .ok (.ireturn, 1) := by decide +kernel
theorem pd_7 : parseMethodDescriptor "(I[II)I" = some ⟨[.int, (.array .int), .int], some .int⟩ := by decide +kernel
theorem ef_8_RI (m : MethodId) (x0 : Addr) (x1 : Int32) : entryFrame m #[(.ref x0), (.int x1)] 2 = mkF m 0 #[.val (.ref x0), .val (.int x1)] [] := by first | (simp [entryFrame, mkF, argsToLocals, Value.category]; done) | rfl
set_option maxRecDepth 65536 in
set_option maxHeartbeats 40000000 in
theorem rm_term (l : Launch) (Z : State) (a0 : Array Value) (hw : ∀ d ∈ tables_1, d.before a0 Z = true) (a1 : Addr) (p2 : Int32) (a3 : Addr) (k3 : ClassId) (x0 : Int32) (h0 : Heap) (n0 : Nat) (H1 : Fld Z h0 a1 "com/example/penumbra/penumbra/reasoner/Linear" "variables" "[I" (.ref a3)) (H2 : Arv Z h0 a3 k3 .int (1 : Int32) [(.int x0)] (.int (0 : Int32))) :
    own_Met l Z (⟨"com/example/penumbra/penumbra/reasoner/Linear", "termOf", "(I)I"⟩ : MethodName) prog_104_method_14_code 2 (some .int) ({ frames := 1, cells := 0, slots := 0, locals := 15 } : Room) #[(.ref a1), (.int p2)] h0 (fun v h L => v = some (.int (if x0 = p2 then (0 : Int32) else (-1 : Int32))) ∧ Fr n0 L ∧ h = h0) := by
  intro ws
  refine MetFree.of_bodySF (plainFor_of_name pn_c1) hisR ?_
  intro p e s m args below meth c s₁ Bd hml0 hP hK
  obtain ⟨rfl, hZ, hh⟩ := hP
  have hx := Bd.exec
  have hby := Bd.bytes
  have hml : c.maxLocals = 2 := hml0
  have hown : s.vm.findClass "com/example/penumbra/penumbra/reasoner/Linear" = some m.cls := findClass_of_methodNamed Bd.named
  have hnm := (name_of_methodNamed Bd.named Bd.method).1
  have hlk : meth.locks = false := Bd.notSynchronized
  have X0 : Stand p l e ({ frames := 1, cells := 0, slots := 0, locals := 15 } : Room) s m #[(.ref a1), (.int p2)] below meth c s₁ [] 0 0 := Stand.of_body Bd
  have e0 : s₁.heap = h0 := by rw [← hh, Bd.state]; rfl
  have N0 := Fr.nil n0
  refine own_body (Q := fun v h L => v = some (.int (if x0 = p2 then (0 : Int32) else (-1 : Int32))) ∧ Fr n0 L ∧ h = h0) ?_
  generalize hΦ : own_Fin s below _ _ _ = Φ
  refine own_cast (ef_8_RI m a1 p2) ?_
  show own_Run p e below Φ (s₁.setTop (mkF m 0 #[.val (.ref a1), .val (.int p2)] []))
  refine own_go (fun t k => XS.iloadN X0.here hx rfl (hb hby d8_0) rfl  k) ?_
  refine own_go (fun t k => XS.aloadN X0.here hx rfl (hb hby d8_1) rfl rfl  k) ?_
  obtain ⟨T1, X1, e1, st1⟩ := getF X0 hx hZ hown (host := "") (Or.inl (hw _ (List.mem_of_getElem? (i := 16) rfl))) Via.refl e0 H1 (g := (mkF m 2 #[.val (.ref a1), .val (.int p2)] [(.ref a1), (.int p2)])) rfl rfl (hb hby d8_2)
  refine own_go st1 ?_
  refine own_go (fun t k => XS.aloadN X1.here hx rfl (hb hby d8_5) rfl rfl  k) ?_
  obtain ⟨T2, X2, e2, st2⟩ := getF X1 hx hZ hown (host := "") (Or.inl (hw _ (List.mem_of_getElem? (i := 16) rfl))) Via.refl e1 H1 (g := (mkF m 6 #[.val (.ref a1), .val (.int p2)] [(.ref a1), (.ref a3), (.int p2)])) rfl rfl (hb hby d8_6)
  refine own_go st2 ?_
  show own_Run p e below Φ (T2.setTop (mkF m 9 #[.val (.ref a1), .val (.int p2)] [(.ref a3), (.ref a3), (.int p2)]))
  refine own_arrlen X2 hx hZ e2 H2 (g := (mkF m 9 #[.val (.ref a1), .val (.int p2)] [(.ref a3), (.ref a3), (.int p2)])) rfl rfl (hb hby d8_9) ?_
  refine own_callS X2 hx hZ (y := (⟨"com/example/penumbra/penumbra/reasoner/Linear", "indexOf", "(I[II)I"⟩ : MethodName)) (W := 0) (argsL := [(.int p2), (.ref a3), (.int (1 : Int32))]) (rest := []) hown (hw _ (List.mem_of_getElem? (i := 45) rfl)) (hw _ (List.mem_of_getElem? (i := 46) rfl)) (hw _ (List.mem_of_getElem? (i := 2) rfl)) (hw _ (List.mem_of_getElem? (i := 47) rfl)) (by decide) (own_bk (rm_idx l Z a0 hw p2 a3 k3 x0 h0 n0 H2) hZ (hw _ (List.mem_of_getElem? (i := 47) rfl)) (hw _ (List.mem_of_getElem? (i := 2) rfl)) (by decide) (by decide)) e2 (g := (mkF m 10 #[.val (.ref a1), .val (.int p2)] [(.int (1 : Int32)), (.ref a3), (.int p2)])) rfl (by rw [hml]; rfl) (lenOf pd_7 rfl) rfl (by show 2 * 0 + _ ≤ _; exact Nat.le_of_eq rfl) (hb hby d8_10) (by decide) (by decide) (fun v3 T3 h3 L3 X3 e3 q3 => ?_)
  obtain ⟨rfl, M3, s3⟩ := q3
  replace e3 : T3.heap = h0 := e3.trans s3
  have N3 := Fr.app N0 M3
  subst hΦ
  exact own_retI X3 hx Bd.returns hlk (hb hby d8_13) e3 ⟨rfl, N3, rfl⟩ (by decide) (by decide)
theorem d6_0 : decode prog_104_method_12_code 0 = .ok (.aload_n 0, 1) := by decide +kernel
theorem d6_1 : decode prog_104_method_12_code 1 = .ok (.getfield 13, 3) := by decide +kernel
theorem d6_4 : decode prog_104_method_12_code 4 = .ok (.iload_n 1, 1) := by decide +kernel
theorem d6_5 : decode prog_104_method_12_code 5 = .ok (.iaload, 1) := by decide +kernel
theorem d6_6 : decode prog_104_method_12_code 6 = .ok (.ireturn, 1) := by decide +kernel
theorem ef_6_RI (m : MethodId) (x0 : Addr) (x1 : Int32) : entryFrame m #[(.ref x0), (.int x1)] 2 = mkF m 0 #[.val (.ref x0), .val (.int x1)] [] := by first | (simp [entryFrame, mkF, argsToLocals, Value.category]; done) | rfl
set_option maxRecDepth 65536 in
set_option maxHeartbeats 40000000 in
theorem rm_vat (l : Launch) (Z : State) (a0 : Array Value) (hw : ∀ d ∈ tables_1, d.before a0 Z = true) (a1 : Addr) (a3 : Addr) (k3 : ClassId) (x0 : Int32) (h0 : Heap) (n0 : Nat) (H1 : Fld Z h0 a1 "com/example/penumbra/penumbra/reasoner/Linear" "variables" "[I" (.ref a3)) (H2 : Arv Z h0 a3 k3 .int (1 : Int32) [(.int x0)] (.int (0 : Int32))) :
    own_Met l Z (⟨"com/example/penumbra/penumbra/reasoner/Linear", "variableAt", "(I)I"⟩ : MethodName) prog_104_method_12_code 2 (some .int) ({ frames := 0, cells := 0, slots := 0, locals := 0 } : Room) #[(.ref a1), (.int (0 : Int32))] h0 (fun v h L => v = some (.int x0) ∧ Fr n0 L ∧ h = h0) := by
  intro ws
  refine MetFree.of_bodySF (plainFor_of_name pn_c1) hisR ?_
  intro p e s m args below meth c s₁ Bd hml0 hP hK
  obtain ⟨rfl, hZ, hh⟩ := hP
  have hx := Bd.exec
  have hby := Bd.bytes
  have hml : c.maxLocals = 2 := hml0
  have hown : s.vm.findClass "com/example/penumbra/penumbra/reasoner/Linear" = some m.cls := findClass_of_methodNamed Bd.named
  have hnm := (name_of_methodNamed Bd.named Bd.method).1
  have hlk : meth.locks = false := Bd.notSynchronized
  have X0 : Stand p l e ({ frames := 0, cells := 0, slots := 0, locals := 0 } : Room) s m #[(.ref a1), (.int (0 : Int32))] below meth c s₁ [] 0 0 := Stand.of_body Bd
  have e0 : s₁.heap = h0 := by rw [← hh, Bd.state]; rfl
  have N0 := Fr.nil n0
  refine own_body (Q := fun v h L => v = some (.int x0) ∧ Fr n0 L ∧ h = h0) ?_
  generalize hΦ : own_Fin s below _ _ _ = Φ
  refine own_cast (ef_6_RI m a1 (0 : Int32)) ?_
  show own_Run p e below Φ (s₁.setTop (mkF m 0 #[.val (.ref a1), .val (.int (0 : Int32))] []))
  refine own_go (fun t k => XS.aloadN X0.here hx rfl (hb hby d6_0) rfl rfl  k) ?_
  obtain ⟨T1, X1, e1, st1⟩ := getF X0 hx hZ hown (host := "") (Or.inl (hw _ (List.mem_of_getElem? (i := 16) rfl))) Via.refl e0 H1 (g := (mkF m 1 #[.val (.ref a1), .val (.int (0 : Int32))] [(.ref a1)])) rfl rfl (hb hby d6_1)
  refine own_go st1 ?_
  refine own_go (fun t k => XS.iloadN X1.here hx rfl (hb hby d6_4) rfl  k) ?_
  refine own_iaload X1 hx hZ e1 H2 (j := (0 : Int32)) (v := (.int x0)) ⟨by decide, by decide⟩ rfl (g := (mkF m 5 #[.val (.ref a1), .val (.int (0 : Int32))] [(.int (0 : Int32)), (.ref a3)])) rfl rfl (hb hby d6_5) ?_
  subst hΦ
  exact own_retI X1 hx Bd.returns hlk (hb hby d6_6) e1 ⟨rfl, N0, rfl⟩ (by decide) (by decide)
theorem d7_0 : decode prog_104_method_13_code 0 = .ok (.aload_n 0, 1) := by decide +kernel
theorem d7_1 : decode prog_104_method_13_code 1 = .ok (.getfield 17, 3) := by decide +kernel
theorem d7_4 : decode prog_104_method_13_code 4 = .ok (.iload_n 1, 1) := by decide +kernel
theorem d7_5 : decode prog_104_method_13_code 5 = .ok (.daload, 1) := by decide +kernel
theorem d7_6 : decode prog_104_method_13_code 6 = .ok (.dreturn, 1) := by decide +kernel
theorem ef_7_RI (m : MethodId) (x0 : Addr) (x1 : Int32) : entryFrame m #[(.ref x0), (.int x1)] 2 = mkF m 0 #[.val (.ref x0), .val (.int x1)] [] := by first | (simp [entryFrame, mkF, argsToLocals, Value.category]; done) | rfl
set_option maxRecDepth 65536 in
set_option maxHeartbeats 40000000 in
theorem rm_cat (l : Launch) (Z : State) (a0 : Array Value) (hw : ∀ d ∈ tables_1, d.before a0 Z = true) (a1 : Addr) (a3 : Addr) (k3 : ClassId) (d4 : UInt64) (h0 : Heap) (n0 : Nat) (H1 : Fld Z h0 a1 "com/example/penumbra/penumbra/reasoner/Linear" "coefficients" "[D" (.ref a3)) (H2 : Arv Z h0 a3 k3 .double (1 : Int32) [(.double d4)] (.double 0)) :
    own_Met l Z (⟨"com/example/penumbra/penumbra/reasoner/Linear", "coefficientAt", "(I)D"⟩ : MethodName) prog_104_method_13_code 2 (some .double) ({ frames := 0, cells := 0, slots := 0, locals := 0 } : Room) #[(.ref a1), (.int (0 : Int32))] h0 (fun v h L => v = some (.double d4) ∧ Fr n0 L ∧ h = h0) := by
  intro ws
  refine MetFree.of_bodySF (plainFor_of_name pn_c1) hisR ?_
  intro p e s m args below meth c s₁ Bd hml0 hP hK
  obtain ⟨rfl, hZ, hh⟩ := hP
  have hx := Bd.exec
  have hby := Bd.bytes
  have hml : c.maxLocals = 2 := hml0
  have hown : s.vm.findClass "com/example/penumbra/penumbra/reasoner/Linear" = some m.cls := findClass_of_methodNamed Bd.named
  have hnm := (name_of_methodNamed Bd.named Bd.method).1
  have hlk : meth.locks = false := Bd.notSynchronized
  have X0 : Stand p l e ({ frames := 0, cells := 0, slots := 0, locals := 0 } : Room) s m #[(.ref a1), (.int (0 : Int32))] below meth c s₁ [] 0 0 := Stand.of_body Bd
  have e0 : s₁.heap = h0 := by rw [← hh, Bd.state]; rfl
  have N0 := Fr.nil n0
  refine own_body (Q := fun v h L => v = some (.double d4) ∧ Fr n0 L ∧ h = h0) ?_
  generalize hΦ : own_Fin s below _ _ _ = Φ
  refine own_cast (ef_7_RI m a1 (0 : Int32)) ?_
  show own_Run p e below Φ (s₁.setTop (mkF m 0 #[.val (.ref a1), .val (.int (0 : Int32))] []))
  refine own_go (fun t k => XS.aloadN X0.here hx rfl (hb hby d7_0) rfl rfl  k) ?_
  obtain ⟨T1, X1, e1, st1⟩ := getF X0 hx hZ hown (host := "") (Or.inl (hw _ (List.mem_of_getElem? (i := 18) rfl))) Via.refl e0 H1 (g := (mkF m 1 #[.val (.ref a1), .val (.int (0 : Int32))] [(.ref a1)])) rfl rfl (hb hby d7_1)
  refine own_go st1 ?_
  refine own_go (fun t k => XS.iloadN X1.here hx rfl (hb hby d7_4) rfl  k) ?_
  refine own_daload X1 hx hZ e1 H2 (j := (0 : Int32)) (v := (.double d4)) ⟨by decide, by decide⟩ rfl (g := (mkF m 5 #[.val (.ref a1), .val (.int (0 : Int32))] [(.int (0 : Int32)), (.ref a3)])) rfl rfl (hb hby d7_5) ?_
  subst hΦ
  exact own_retO X1 hx (t := .double) Bd.returns rfl (Or.inr (Or.inr (Or.inl ⟨rfl, rfl, _, rfl⟩))) hlk (hb hby d7_6) e1 ⟨rfl, N0, rfl⟩ (by decide) (by decide)
theorem d10_0 : decode prog_104_method_10_code 0 = .ok (.aload_n 0, 1) := by decide +kernel
theorem d10_1 : decode prog_104_method_10_code 1 = .ok (.getfield 7, 3) := by decide +kernel
theorem d10_4 : decode prog_104_method_10_code 4 = .ok (.dstore_n 2, 1) := by decide +kernel
theorem d10_5 : decode prog_104_method_10_code 5 = .ok (.iconst 0, 1) := by decide +kernel
theorem d10_6 : decode prog_104_method_10_code 6 = .ok (.istore 4, 2) := by decide +kernel
theorem d10_8 : decode prog_104_method_10_code 8 = .ok (.iload 4, 2) := by decide +kernel
theorem d10_10 : decode prog_104_method_10_code 10 = .ok (.aload_n 0, 1) := by decide +kernel
theorem d10_11 : decode prog_104_method_10_code 11 = .ok (.getfield 13, 3) := by decide +kernel
theorem d10_14 : decode prog_104_method_10_code 14 = .ok (.arraylength, 1) := by decide +kernel
theorem d10_15 : decode prog_104_method_10_code 15 = .ok (.if_icmp .ge 29, 3) := by decide +kernel
theorem d10_18 : decode prog_104_method_10_code 18 = .ok (.dload_n 2, 1) := by decide +kernel
theorem d10_19 : decode prog_104_method_10_code 19 = .ok (.aload_n 0, 1) := by decide +kernel
theorem d10_20 : decode prog_104_method_10_code 20 = .ok (.getfield 17, 3) := by decide +kernel
theorem d10_23 : decode prog_104_method_10_code 23 = .ok (.iload 4, 2) := by decide +kernel
theorem d10_25 : decode prog_104_method_10_code 25 = .ok (.daload, 1) := by decide +kernel
theorem d10_26 : decode prog_104_method_10_code 26 = .ok (.aload_n 1, 1) := by decide +kernel
theorem d10_27 : decode prog_104_method_10_code 27 = .ok (.aload_n 0, 1) := by decide +kernel
theorem d10_28 : decode prog_104_method_10_code 28 = .ok (.getfield 13, 3) := by decide +kernel
theorem d10_31 : decode prog_104_method_10_code 31 = .ok (.iload 4, 2) := by decide +kernel
theorem d10_33 : decode prog_104_method_10_code 33 = .ok (.iaload, 1) := by decide +kernel
theorem d10_34 : decode prog_104_method_10_code 34 = .ok (.daload, 1) := by decide +kernel
theorem d10_35 : decode prog_104_method_10_code 35 = .ok (.dmul, 1) := by decide +kernel
theorem d10_36 : decode prog_104_method_10_code 36 = .ok (.dadd, 1) := by decide +kernel
theorem d10_37 : decode prog_104_method_10_code 37 = .ok (.dstore_n 2, 1) := by decide +kernel
theorem d10_38 : decode prog_104_method_10_code 38 = .ok (.iinc 4 1, 3) := by decide +kernel
theorem d10_41 : decode prog_104_method_10_code 41 = .ok (.goto (-33), 3) := by decide +kernel
theorem d10_44 : decode prog_104_method_10_code 44 = .ok (.dload_n 2, 1) := by decide +kernel
theorem d10_45 : decode prog_104_method_10_code 45 = .ok (.dreturn, 1) := by decide +kernel
theorem ef_10_RR (m : MethodId) (x0 : Addr) (x1 : Addr) : entryFrame m #[(.ref x0), (.ref x1)] 5 = mkF m 0 #[.val (.ref x0), .val (.ref x1), .unset, .unset, .unset] [] := by first | (simp [entryFrame, mkF, argsToLocals, Value.category]; done) | rfl
set_option maxRecDepth 65536 in
set_option maxHeartbeats 40000000 in
theorem rm_val0 (l : Launch) (Z : State) (a0 : Array Value) (hw : ∀ d ∈ tables_1, d.before a0 Z = true) (a1 : Addr) (a2 : Addr) (a4 : Addr) (k4 : ClassId) (a5 : Addr) (k5 : ClassId) (k2 : ClassId) (p6 : Int32) (y1 : UInt64) (y2 : UInt64) (y3 : UInt64) (h0 : Heap) (n0 : Nat) (H1 : Fld Z h0 a1 "com/example/penumbra/penumbra/reasoner/Linear" "constant" "D" (.double (FP.l2d (0 : Int64)))) (H2 : Fld Z h0 a1 "com/example/penumbra/penumbra/reasoner/Linear" "variables" "[I" (.ref a4)) (H3 : Fld Z h0 a1 "com/example/penumbra/penumbra/reasoner/Linear" "coefficients" "[D" (.ref a5)) (H4 : Arv Z h0 a4 k4 .int (1 : Int32) [(.int (0 : Int32))] (.int (0 : Int32))) (H5 : Arv Z h0 a5 k5 .double (1 : Int32) [(.double (FP.l2d (1 : Int64)))] (.double 0)) (H6 : Arv Z h0 a2 k2 .double (4 : Int32) [(.double (FP.l2d (p6.toInt64))), (.double y1), (.double y2), (.double y3)] (.double 0)) :
    own_Met l Z (⟨"com/example/penumbra/penumbra/reasoner/Linear", "valueAt", "([D)D"⟩ : MethodName) prog_104_method_10_code 5 (some .double) ({ frames := 0, cells := 0, slots := 0, locals := 0 } : Room) #[(.ref a1), (.ref a2)] h0 (fun v h L => v = some (.double (FP.l2d (p6.toInt64))) ∧ Fr n0 L ∧ h = h0) := by
  intro ws
  refine MetFree.of_bodySF (plainFor_of_name pn_c1) hisR ?_
  intro p e s m args below meth c s₁ Bd hml0 hP hK
  obtain ⟨rfl, hZ, hh⟩ := hP
  have hx := Bd.exec
  have hby := Bd.bytes
  have hml : c.maxLocals = 5 := hml0
  have hown : s.vm.findClass "com/example/penumbra/penumbra/reasoner/Linear" = some m.cls := findClass_of_methodNamed Bd.named
  have hnm := (name_of_methodNamed Bd.named Bd.method).1
  have hlk : meth.locks = false := Bd.notSynchronized
  have X0 : Stand p l e ({ frames := 0, cells := 0, slots := 0, locals := 0 } : Room) s m #[(.ref a1), (.ref a2)] below meth c s₁ [] 0 0 := Stand.of_body Bd
  have e0 : s₁.heap = h0 := by rw [← hh, Bd.state]; rfl
  have N0 := Fr.nil n0
  refine own_body (Q := fun v h L => v = some (.double (FP.l2d (p6.toInt64))) ∧ Fr n0 L ∧ h = h0) ?_
  generalize hΦ : own_Fin s below _ _ _ = Φ
  refine own_cast (ef_10_RR m a1 a2) ?_
  show own_Run p e below Φ (s₁.setTop (mkF m 0 #[.val (.ref a1), .val (.ref a2), .unset, .unset, .unset] []))
  refine own_go (fun t k => XS.aloadN X0.here hx rfl (hb hby d10_0) rfl rfl  k) ?_
  obtain ⟨T1, X1, e1, st1⟩ := getF X0 hx hZ hown (host := "") (Or.inl (hw _ (List.mem_of_getElem? (i := 14) rfl))) Via.refl e0 H1 (g := (mkF m 1 #[.val (.ref a1), .val (.ref a2), .unset, .unset, .unset] [(.ref a1)])) rfl rfl (hb hby d10_1)
  refine own_go st1 ?_
  refine own_go (fun t k => XS.dstoreN X1.here hx rfl (hb hby d10_4) rfl (l' := #[.val (.ref a1), .val (.ref a2), .val (.double (FP.l2d (0 : Int64))), .second, .unset]) rfl k) ?_
  refine own_go (fun t k => XS.iconst X1.here hx rfl (hb hby d10_5) k) ?_
  refine own_go (fun t k => XS.istore X1.here hx rfl (hb hby d10_6) rfl (l' := #[.val (.ref a1), .val (.ref a2), .val (.double (FP.l2d (0 : Int64))), .second, .val (.int (0 : Int32))]) rfl k) ?_
  show own_Run p e below Φ (T1.setTop (mkF m 8 #[.val (.ref a1), .val (.ref a2), .val (.double (FP.l2d (0 : Int64))), .second, .val (.int (0 : Int32))] []))
  refine own_go (fun t k => XS.iload X1.here hx rfl (hb hby d10_8) rfl  k) ?_
  refine own_go (fun t k => XS.aloadN X1.here hx rfl (hb hby d10_10) rfl rfl  k) ?_
  obtain ⟨T2, X2, e2, st2⟩ := getF X1 hx hZ hown (host := "") (Or.inl (hw _ (List.mem_of_getElem? (i := 16) rfl))) Via.refl e1 H2 (g := (mkF m 11 #[.val (.ref a1), .val (.ref a2), .val (.double (FP.l2d (0 : Int64))), .second, .val (.int (0 : Int32))] [(.ref a1), (.int (0 : Int32))])) rfl rfl (hb hby d10_11)
  refine own_go st2 ?_
  refine own_arrlen X2 hx hZ e2 H4 (g := (mkF m 14 #[.val (.ref a1), .val (.ref a2), .val (.double (FP.l2d (0 : Int64))), .second, .val (.int (0 : Int32))] [(.ref a4), (.int (0 : Int32))])) rfl rfl (hb hby d10_14) ?_
  refine own_go (fun t k => XS.icmpNo X2.here hx rfl (hb hby d10_15) rfl (tlt (by decide : (0 : Int32) < (1 : Int32))).2.1 k) ?_
  show own_Run p e below Φ (T2.setTop (mkF m 18 #[.val (.ref a1), .val (.ref a2), .val (.double (FP.l2d (0 : Int64))), .second, .val (.int (0 : Int32))] []))
  refine own_go (fun t k => XS.dloadN X2.here hx rfl (hb hby d10_18) rfl  k) ?_
  refine own_go (fun t k => XS.aloadN X2.here hx rfl (hb hby d10_19) rfl rfl  k) ?_
  obtain ⟨T3, X3, e3, st3⟩ := getF X2 hx hZ hown (host := "") (Or.inl (hw _ (List.mem_of_getElem? (i := 18) rfl))) Via.refl e2 H3 (g := (mkF m 20 #[.val (.ref a1), .val (.ref a2), .val (.double (FP.l2d (0 : Int64))), .second, .val (.int (0 : Int32))] [(.ref a1), (.double (FP.l2d (0 : Int64)))])) rfl rfl (hb hby d10_20)
  refine own_go st3 ?_
  refine own_go (fun t k => XS.iload X3.here hx rfl (hb hby d10_23) rfl  k) ?_
  refine own_daload X3 hx hZ e3 H5 (j := (0 : Int32)) (v := (.double (FP.l2d (1 : Int64)))) ⟨by decide, by decide⟩ rfl (g := (mkF m 25 #[.val (.ref a1), .val (.ref a2), .val (.double (FP.l2d (0 : Int64))), .second, .val (.int (0 : Int32))] [(.int (0 : Int32)), (.ref a5), (.double (FP.l2d (0 : Int64)))])) rfl rfl (hb hby d10_25) ?_
  show own_Run p e below Φ (T3.setTop (mkF m 26 #[.val (.ref a1), .val (.ref a2), .val (.double (FP.l2d (0 : Int64))), .second, .val (.int (0 : Int32))] [(.double (FP.l2d (1 : Int64))), (.double (FP.l2d (0 : Int64)))]))
  refine own_go (fun t k => XS.aloadN X3.here hx rfl (hb hby d10_26) rfl rfl  k) ?_
  refine own_go (fun t k => XS.aloadN X3.here hx rfl (hb hby d10_27) rfl rfl  k) ?_
  obtain ⟨T4, X4, e4, st4⟩ := getF X3 hx hZ hown (host := "") (Or.inl (hw _ (List.mem_of_getElem? (i := 16) rfl))) Via.refl e3 H2 (g := (mkF m 28 #[.val (.ref a1), .val (.ref a2), .val (.double (FP.l2d (0 : Int64))), .second, .val (.int (0 : Int32))] [(.ref a1), (.ref a2), (.double (FP.l2d (1 : Int64))), (.double (FP.l2d (0 : Int64)))])) rfl rfl (hb hby d10_28)
  refine own_go st4 ?_
  refine own_go (fun t k => XS.iload X4.here hx rfl (hb hby d10_31) rfl  k) ?_
  refine own_iaload X4 hx hZ e4 H4 (j := (0 : Int32)) (v := (.int (0 : Int32))) ⟨by decide, by decide⟩ rfl (g := (mkF m 33 #[.val (.ref a1), .val (.ref a2), .val (.double (FP.l2d (0 : Int64))), .second, .val (.int (0 : Int32))] [(.int (0 : Int32)), (.ref a4), (.ref a2), (.double (FP.l2d (1 : Int64))), (.double (FP.l2d (0 : Int64)))])) rfl rfl (hb hby d10_33) ?_
  show own_Run p e below Φ (T4.setTop (mkF m 34 #[.val (.ref a1), .val (.ref a2), .val (.double (FP.l2d (0 : Int64))), .second, .val (.int (0 : Int32))] [(.int (0 : Int32)), (.ref a2), (.double (FP.l2d (1 : Int64))), (.double (FP.l2d (0 : Int64)))]))
  refine own_daload X4 hx hZ e4 H6 (j := (0 : Int32)) (v := (.double (FP.l2d (p6.toInt64)))) ⟨by decide, by decide⟩ rfl (g := (mkF m 34 #[.val (.ref a1), .val (.ref a2), .val (.double (FP.l2d (0 : Int64))), .second, .val (.int (0 : Int32))] [(.int (0 : Int32)), (.ref a2), (.double (FP.l2d (1 : Int64))), (.double (FP.l2d (0 : Int64)))])) rfl rfl (hb hby d10_34) ?_
  refine own_go (fun t k => XS.dmulS X4.here hx rfl (v := (FP.l2d (p6.toInt64))) (hb hby d10_35) rfl (nn_w (own_mul1 p6)) (own_mul1 p6) k) ?_
  refine own_go (fun t k => XS.daddS X4.here hx rfl (v := (FP.l2d (p6.toInt64))) (hb hby d10_36) rfl (nn_w (own_add0 p6)) (own_add0 p6) k) ?_
  refine own_go (fun t k => XS.dstoreN X4.here hx rfl (hb hby d10_37) rfl (l' := #[.val (.ref a1), .val (.ref a2), .val (.double (FP.l2d (p6.toInt64))), .second, .val (.int (0 : Int32))]) rfl k) ?_
  refine own_go (fun t k => XS.iinc X4.here hx rfl (hb hby d10_38) rfl (l' := #[.val (.ref a1), .val (.ref a2), .val (.double (FP.l2d (p6.toInt64))), .second, .val (.int ((0 : Int32) + (1 : Int32)))]) rfl k) ?_
  show own_Run p e below Φ (T4.setTop (mkF m 41 #[.val (.ref a1), .val (.ref a2), .val (.double (FP.l2d (p6.toInt64))), .second, .val (.int ((0 : Int32) + (1 : Int32)))] []))
  rw [show ((0 : Int32) + (1 : Int32)) = (1 : Int32) from by decide]
  show own_Run p e below Φ (T4.setTop (mkF m 41 #[.val (.ref a1), .val (.ref a2), .val (.double (FP.l2d (p6.toInt64))), .second, .val (.int (1 : Int32))] []))
  refine own_go (fun t k => XS.goto X4.here hx rfl (pc0 := 41) (pc' := 8) rfl (hb hby d10_41) (by decide) (by decide) k) ?_
  refine own_go (fun t k => XS.iload X4.here hx rfl (hb hby d10_8) rfl  k) ?_
  refine own_go (fun t k => XS.aloadN X4.here hx rfl (hb hby d10_10) rfl rfl  k) ?_
  obtain ⟨T5, X5, e5, st5⟩ := getF X4 hx hZ hown (host := "") (Or.inl (hw _ (List.mem_of_getElem? (i := 16) rfl))) Via.refl e4 H2 (g := (mkF m 11 #[.val (.ref a1), .val (.ref a2), .val (.double (FP.l2d (p6.toInt64))), .second, .val (.int (1 : Int32))] [(.ref a1), (.int (1 : Int32))])) rfl rfl (hb hby d10_11)
  refine own_go st5 ?_
  refine own_arrlen X5 hx hZ e5 H4 (g := (mkF m 14 #[.val (.ref a1), .val (.ref a2), .val (.double (FP.l2d (p6.toInt64))), .second, .val (.int (1 : Int32))] [(.ref a4), (.int (1 : Int32))])) rfl rfl (hb hby d10_14) ?_
  show own_Run p e below Φ (T5.setTop (mkF m 15 #[.val (.ref a1), .val (.ref a2), .val (.double (FP.l2d (p6.toInt64))), .second, .val (.int (1 : Int32))] [(.int (1 : Int32)), (.int (1 : Int32))]))
  refine own_go (fun t k => XS.icmpYes X5.here hx rfl (pc0 := 15) (pc' := 44) rfl (hb hby d10_15) rfl (flt (by decide : ¬ ((1 : Int32) < (1 : Int32)))).2.1 (by decide) (by decide) k) ?_
  refine own_go (fun t k => XS.dloadN X5.here hx rfl (hb hby d10_44) rfl  k) ?_
  subst hΦ
  exact own_retO X5 hx (t := .double) Bd.returns rfl (Or.inr (Or.inr (Or.inl ⟨rfl, rfl, _, rfl⟩))) hlk (hb hby d10_45) e5 ⟨rfl, N0, rfl⟩ (by decide) (by decide)
set_option maxRecDepth 65536 in
set_option maxHeartbeats 40000000 in
theorem rm_val1 (l : Launch) (Z : State) (a0 : Array Value) (hw : ∀ d ∈ tables_1, d.before a0 Z = true) (a1 : Addr) (a2 : Addr) (a4 : Addr) (k4 : ClassId) (a5 : Addr) (k5 : ClassId) (k2 : ClassId) (p6 : Int32) (y0 : UInt64) (y2 : UInt64) (y3 : UInt64) (h0 : Heap) (n0 : Nat) (H1 : Fld Z h0 a1 "com/example/penumbra/penumbra/reasoner/Linear" "constant" "D" (.double (FP.l2d (0 : Int64)))) (H2 : Fld Z h0 a1 "com/example/penumbra/penumbra/reasoner/Linear" "variables" "[I" (.ref a4)) (H3 : Fld Z h0 a1 "com/example/penumbra/penumbra/reasoner/Linear" "coefficients" "[D" (.ref a5)) (H4 : Arv Z h0 a4 k4 .int (1 : Int32) [(.int (1 : Int32))] (.int (0 : Int32))) (H5 : Arv Z h0 a5 k5 .double (1 : Int32) [(.double (FP.l2d (1 : Int64)))] (.double 0)) (H6 : Arv Z h0 a2 k2 .double (4 : Int32) [(.double y0), (.double (FP.l2d (p6.toInt64))), (.double y2), (.double y3)] (.double 0)) :
    own_Met l Z (⟨"com/example/penumbra/penumbra/reasoner/Linear", "valueAt", "([D)D"⟩ : MethodName) prog_104_method_10_code 5 (some .double) ({ frames := 0, cells := 0, slots := 0, locals := 0 } : Room) #[(.ref a1), (.ref a2)] h0 (fun v h L => v = some (.double (FP.l2d (p6.toInt64))) ∧ Fr n0 L ∧ h = h0) := by
  intro ws
  refine MetFree.of_bodySF (plainFor_of_name pn_c1) hisR ?_
  intro p e s m args below meth c s₁ Bd hml0 hP hK
  obtain ⟨rfl, hZ, hh⟩ := hP
  have hx := Bd.exec
  have hby := Bd.bytes
  have hml : c.maxLocals = 5 := hml0
  have hown : s.vm.findClass "com/example/penumbra/penumbra/reasoner/Linear" = some m.cls := findClass_of_methodNamed Bd.named
  have hnm := (name_of_methodNamed Bd.named Bd.method).1
  have hlk : meth.locks = false := Bd.notSynchronized
  have X0 : Stand p l e ({ frames := 0, cells := 0, slots := 0, locals := 0 } : Room) s m #[(.ref a1), (.ref a2)] below meth c s₁ [] 0 0 := Stand.of_body Bd
  have e0 : s₁.heap = h0 := by rw [← hh, Bd.state]; rfl
  have N0 := Fr.nil n0
  refine own_body (Q := fun v h L => v = some (.double (FP.l2d (p6.toInt64))) ∧ Fr n0 L ∧ h = h0) ?_
  generalize hΦ : own_Fin s below _ _ _ = Φ
  refine own_cast (ef_10_RR m a1 a2) ?_
  show own_Run p e below Φ (s₁.setTop (mkF m 0 #[.val (.ref a1), .val (.ref a2), .unset, .unset, .unset] []))
  refine own_go (fun t k => XS.aloadN X0.here hx rfl (hb hby d10_0) rfl rfl  k) ?_
  obtain ⟨T1, X1, e1, st1⟩ := getF X0 hx hZ hown (host := "") (Or.inl (hw _ (List.mem_of_getElem? (i := 14) rfl))) Via.refl e0 H1 (g := (mkF m 1 #[.val (.ref a1), .val (.ref a2), .unset, .unset, .unset] [(.ref a1)])) rfl rfl (hb hby d10_1)
  refine own_go st1 ?_
  refine own_go (fun t k => XS.dstoreN X1.here hx rfl (hb hby d10_4) rfl (l' := #[.val (.ref a1), .val (.ref a2), .val (.double (FP.l2d (0 : Int64))), .second, .unset]) rfl k) ?_
  refine own_go (fun t k => XS.iconst X1.here hx rfl (hb hby d10_5) k) ?_
  refine own_go (fun t k => XS.istore X1.here hx rfl (hb hby d10_6) rfl (l' := #[.val (.ref a1), .val (.ref a2), .val (.double (FP.l2d (0 : Int64))), .second, .val (.int (0 : Int32))]) rfl k) ?_
  show own_Run p e below Φ (T1.setTop (mkF m 8 #[.val (.ref a1), .val (.ref a2), .val (.double (FP.l2d (0 : Int64))), .second, .val (.int (0 : Int32))] []))
  refine own_go (fun t k => XS.iload X1.here hx rfl (hb hby d10_8) rfl  k) ?_
  refine own_go (fun t k => XS.aloadN X1.here hx rfl (hb hby d10_10) rfl rfl  k) ?_
  obtain ⟨T2, X2, e2, st2⟩ := getF X1 hx hZ hown (host := "") (Or.inl (hw _ (List.mem_of_getElem? (i := 16) rfl))) Via.refl e1 H2 (g := (mkF m 11 #[.val (.ref a1), .val (.ref a2), .val (.double (FP.l2d (0 : Int64))), .second, .val (.int (0 : Int32))] [(.ref a1), (.int (0 : Int32))])) rfl rfl (hb hby d10_11)
  refine own_go st2 ?_
  refine own_arrlen X2 hx hZ e2 H4 (g := (mkF m 14 #[.val (.ref a1), .val (.ref a2), .val (.double (FP.l2d (0 : Int64))), .second, .val (.int (0 : Int32))] [(.ref a4), (.int (0 : Int32))])) rfl rfl (hb hby d10_14) ?_
  refine own_go (fun t k => XS.icmpNo X2.here hx rfl (hb hby d10_15) rfl (tlt (by decide : (0 : Int32) < (1 : Int32))).2.1 k) ?_
  show own_Run p e below Φ (T2.setTop (mkF m 18 #[.val (.ref a1), .val (.ref a2), .val (.double (FP.l2d (0 : Int64))), .second, .val (.int (0 : Int32))] []))
  refine own_go (fun t k => XS.dloadN X2.here hx rfl (hb hby d10_18) rfl  k) ?_
  refine own_go (fun t k => XS.aloadN X2.here hx rfl (hb hby d10_19) rfl rfl  k) ?_
  obtain ⟨T3, X3, e3, st3⟩ := getF X2 hx hZ hown (host := "") (Or.inl (hw _ (List.mem_of_getElem? (i := 18) rfl))) Via.refl e2 H3 (g := (mkF m 20 #[.val (.ref a1), .val (.ref a2), .val (.double (FP.l2d (0 : Int64))), .second, .val (.int (0 : Int32))] [(.ref a1), (.double (FP.l2d (0 : Int64)))])) rfl rfl (hb hby d10_20)
  refine own_go st3 ?_
  refine own_go (fun t k => XS.iload X3.here hx rfl (hb hby d10_23) rfl  k) ?_
  refine own_daload X3 hx hZ e3 H5 (j := (0 : Int32)) (v := (.double (FP.l2d (1 : Int64)))) ⟨by decide, by decide⟩ rfl (g := (mkF m 25 #[.val (.ref a1), .val (.ref a2), .val (.double (FP.l2d (0 : Int64))), .second, .val (.int (0 : Int32))] [(.int (0 : Int32)), (.ref a5), (.double (FP.l2d (0 : Int64)))])) rfl rfl (hb hby d10_25) ?_
  show own_Run p e below Φ (T3.setTop (mkF m 26 #[.val (.ref a1), .val (.ref a2), .val (.double (FP.l2d (0 : Int64))), .second, .val (.int (0 : Int32))] [(.double (FP.l2d (1 : Int64))), (.double (FP.l2d (0 : Int64)))]))
  refine own_go (fun t k => XS.aloadN X3.here hx rfl (hb hby d10_26) rfl rfl  k) ?_
  refine own_go (fun t k => XS.aloadN X3.here hx rfl (hb hby d10_27) rfl rfl  k) ?_
  obtain ⟨T4, X4, e4, st4⟩ := getF X3 hx hZ hown (host := "") (Or.inl (hw _ (List.mem_of_getElem? (i := 16) rfl))) Via.refl e3 H2 (g := (mkF m 28 #[.val (.ref a1), .val (.ref a2), .val (.double (FP.l2d (0 : Int64))), .second, .val (.int (0 : Int32))] [(.ref a1), (.ref a2), (.double (FP.l2d (1 : Int64))), (.double (FP.l2d (0 : Int64)))])) rfl rfl (hb hby d10_28)
  refine own_go st4 ?_
  refine own_go (fun t k => XS.iload X4.here hx rfl (hb hby d10_31) rfl  k) ?_
  refine own_iaload X4 hx hZ e4 H4 (j := (0 : Int32)) (v := (.int (1 : Int32))) ⟨by decide, by decide⟩ rfl (g := (mkF m 33 #[.val (.ref a1), .val (.ref a2), .val (.double (FP.l2d (0 : Int64))), .second, .val (.int (0 : Int32))] [(.int (0 : Int32)), (.ref a4), (.ref a2), (.double (FP.l2d (1 : Int64))), (.double (FP.l2d (0 : Int64)))])) rfl rfl (hb hby d10_33) ?_
  show own_Run p e below Φ (T4.setTop (mkF m 34 #[.val (.ref a1), .val (.ref a2), .val (.double (FP.l2d (0 : Int64))), .second, .val (.int (0 : Int32))] [(.int (1 : Int32)), (.ref a2), (.double (FP.l2d (1 : Int64))), (.double (FP.l2d (0 : Int64)))]))
  refine own_daload X4 hx hZ e4 H6 (j := (1 : Int32)) (v := (.double (FP.l2d (p6.toInt64)))) ⟨by decide, by decide⟩ rfl (g := (mkF m 34 #[.val (.ref a1), .val (.ref a2), .val (.double (FP.l2d (0 : Int64))), .second, .val (.int (0 : Int32))] [(.int (1 : Int32)), (.ref a2), (.double (FP.l2d (1 : Int64))), (.double (FP.l2d (0 : Int64)))])) rfl rfl (hb hby d10_34) ?_
  refine own_go (fun t k => XS.dmulS X4.here hx rfl (v := (FP.l2d (p6.toInt64))) (hb hby d10_35) rfl (nn_w (own_mul1 p6)) (own_mul1 p6) k) ?_
  refine own_go (fun t k => XS.daddS X4.here hx rfl (v := (FP.l2d (p6.toInt64))) (hb hby d10_36) rfl (nn_w (own_add0 p6)) (own_add0 p6) k) ?_
  refine own_go (fun t k => XS.dstoreN X4.here hx rfl (hb hby d10_37) rfl (l' := #[.val (.ref a1), .val (.ref a2), .val (.double (FP.l2d (p6.toInt64))), .second, .val (.int (0 : Int32))]) rfl k) ?_
  refine own_go (fun t k => XS.iinc X4.here hx rfl (hb hby d10_38) rfl (l' := #[.val (.ref a1), .val (.ref a2), .val (.double (FP.l2d (p6.toInt64))), .second, .val (.int ((0 : Int32) + (1 : Int32)))]) rfl k) ?_
  show own_Run p e below Φ (T4.setTop (mkF m 41 #[.val (.ref a1), .val (.ref a2), .val (.double (FP.l2d (p6.toInt64))), .second, .val (.int ((0 : Int32) + (1 : Int32)))] []))
  rw [show ((0 : Int32) + (1 : Int32)) = (1 : Int32) from by decide]
  show own_Run p e below Φ (T4.setTop (mkF m 41 #[.val (.ref a1), .val (.ref a2), .val (.double (FP.l2d (p6.toInt64))), .second, .val (.int (1 : Int32))] []))
  refine own_go (fun t k => XS.goto X4.here hx rfl (pc0 := 41) (pc' := 8) rfl (hb hby d10_41) (by decide) (by decide) k) ?_
  refine own_go (fun t k => XS.iload X4.here hx rfl (hb hby d10_8) rfl  k) ?_
  refine own_go (fun t k => XS.aloadN X4.here hx rfl (hb hby d10_10) rfl rfl  k) ?_
  obtain ⟨T5, X5, e5, st5⟩ := getF X4 hx hZ hown (host := "") (Or.inl (hw _ (List.mem_of_getElem? (i := 16) rfl))) Via.refl e4 H2 (g := (mkF m 11 #[.val (.ref a1), .val (.ref a2), .val (.double (FP.l2d (p6.toInt64))), .second, .val (.int (1 : Int32))] [(.ref a1), (.int (1 : Int32))])) rfl rfl (hb hby d10_11)
  refine own_go st5 ?_
  refine own_arrlen X5 hx hZ e5 H4 (g := (mkF m 14 #[.val (.ref a1), .val (.ref a2), .val (.double (FP.l2d (p6.toInt64))), .second, .val (.int (1 : Int32))] [(.ref a4), (.int (1 : Int32))])) rfl rfl (hb hby d10_14) ?_
  show own_Run p e below Φ (T5.setTop (mkF m 15 #[.val (.ref a1), .val (.ref a2), .val (.double (FP.l2d (p6.toInt64))), .second, .val (.int (1 : Int32))] [(.int (1 : Int32)), (.int (1 : Int32))]))
  refine own_go (fun t k => XS.icmpYes X5.here hx rfl (pc0 := 15) (pc' := 44) rfl (hb hby d10_15) rfl (flt (by decide : ¬ ((1 : Int32) < (1 : Int32)))).2.1 (by decide) (by decide) k) ?_
  refine own_go (fun t k => XS.dloadN X5.here hx rfl (hb hby d10_44) rfl  k) ?_
  subst hΦ
  exact own_retO X5 hx (t := .double) Bd.returns rfl (Or.inr (Or.inr (Or.inl ⟨rfl, rfl, _, rfl⟩))) hlk (hb hby d10_45) e5 ⟨rfl, N0, rfl⟩ (by decide) (by decide)
set_option maxRecDepth 65536 in
set_option maxHeartbeats 40000000 in
theorem rm_val2 (l : Launch) (Z : State) (a0 : Array Value) (hw : ∀ d ∈ tables_1, d.before a0 Z = true) (a1 : Addr) (a2 : Addr) (a4 : Addr) (k4 : ClassId) (a5 : Addr) (k5 : ClassId) (k2 : ClassId) (p6 : Int32) (y0 : UInt64) (y1 : UInt64) (y3 : UInt64) (h0 : Heap) (n0 : Nat) (H1 : Fld Z h0 a1 "com/example/penumbra/penumbra/reasoner/Linear" "constant" "D" (.double (FP.l2d (0 : Int64)))) (H2 : Fld Z h0 a1 "com/example/penumbra/penumbra/reasoner/Linear" "variables" "[I" (.ref a4)) (H3 : Fld Z h0 a1 "com/example/penumbra/penumbra/reasoner/Linear" "coefficients" "[D" (.ref a5)) (H4 : Arv Z h0 a4 k4 .int (1 : Int32) [(.int (2 : Int32))] (.int (0 : Int32))) (H5 : Arv Z h0 a5 k5 .double (1 : Int32) [(.double (FP.l2d (1 : Int64)))] (.double 0)) (H6 : Arv Z h0 a2 k2 .double (4 : Int32) [(.double y0), (.double y1), (.double (FP.l2d (p6.toInt64))), (.double y3)] (.double 0)) :
    own_Met l Z (⟨"com/example/penumbra/penumbra/reasoner/Linear", "valueAt", "([D)D"⟩ : MethodName) prog_104_method_10_code 5 (some .double) ({ frames := 0, cells := 0, slots := 0, locals := 0 } : Room) #[(.ref a1), (.ref a2)] h0 (fun v h L => v = some (.double (FP.l2d (p6.toInt64))) ∧ Fr n0 L ∧ h = h0) := by
  intro ws
  refine MetFree.of_bodySF (plainFor_of_name pn_c1) hisR ?_
  intro p e s m args below meth c s₁ Bd hml0 hP hK
  obtain ⟨rfl, hZ, hh⟩ := hP
  have hx := Bd.exec
  have hby := Bd.bytes
  have hml : c.maxLocals = 5 := hml0
  have hown : s.vm.findClass "com/example/penumbra/penumbra/reasoner/Linear" = some m.cls := findClass_of_methodNamed Bd.named
  have hnm := (name_of_methodNamed Bd.named Bd.method).1
  have hlk : meth.locks = false := Bd.notSynchronized
  have X0 : Stand p l e ({ frames := 0, cells := 0, slots := 0, locals := 0 } : Room) s m #[(.ref a1), (.ref a2)] below meth c s₁ [] 0 0 := Stand.of_body Bd
  have e0 : s₁.heap = h0 := by rw [← hh, Bd.state]; rfl
  have N0 := Fr.nil n0
  refine own_body (Q := fun v h L => v = some (.double (FP.l2d (p6.toInt64))) ∧ Fr n0 L ∧ h = h0) ?_
  generalize hΦ : own_Fin s below _ _ _ = Φ
  refine own_cast (ef_10_RR m a1 a2) ?_
  show own_Run p e below Φ (s₁.setTop (mkF m 0 #[.val (.ref a1), .val (.ref a2), .unset, .unset, .unset] []))
  refine own_go (fun t k => XS.aloadN X0.here hx rfl (hb hby d10_0) rfl rfl  k) ?_
  obtain ⟨T1, X1, e1, st1⟩ := getF X0 hx hZ hown (host := "") (Or.inl (hw _ (List.mem_of_getElem? (i := 14) rfl))) Via.refl e0 H1 (g := (mkF m 1 #[.val (.ref a1), .val (.ref a2), .unset, .unset, .unset] [(.ref a1)])) rfl rfl (hb hby d10_1)
  refine own_go st1 ?_
  refine own_go (fun t k => XS.dstoreN X1.here hx rfl (hb hby d10_4) rfl (l' := #[.val (.ref a1), .val (.ref a2), .val (.double (FP.l2d (0 : Int64))), .second, .unset]) rfl k) ?_
  refine own_go (fun t k => XS.iconst X1.here hx rfl (hb hby d10_5) k) ?_
  refine own_go (fun t k => XS.istore X1.here hx rfl (hb hby d10_6) rfl (l' := #[.val (.ref a1), .val (.ref a2), .val (.double (FP.l2d (0 : Int64))), .second, .val (.int (0 : Int32))]) rfl k) ?_
  show own_Run p e below Φ (T1.setTop (mkF m 8 #[.val (.ref a1), .val (.ref a2), .val (.double (FP.l2d (0 : Int64))), .second, .val (.int (0 : Int32))] []))
  refine own_go (fun t k => XS.iload X1.here hx rfl (hb hby d10_8) rfl  k) ?_
  refine own_go (fun t k => XS.aloadN X1.here hx rfl (hb hby d10_10) rfl rfl  k) ?_
  obtain ⟨T2, X2, e2, st2⟩ := getF X1 hx hZ hown (host := "") (Or.inl (hw _ (List.mem_of_getElem? (i := 16) rfl))) Via.refl e1 H2 (g := (mkF m 11 #[.val (.ref a1), .val (.ref a2), .val (.double (FP.l2d (0 : Int64))), .second, .val (.int (0 : Int32))] [(.ref a1), (.int (0 : Int32))])) rfl rfl (hb hby d10_11)
  refine own_go st2 ?_
  refine own_arrlen X2 hx hZ e2 H4 (g := (mkF m 14 #[.val (.ref a1), .val (.ref a2), .val (.double (FP.l2d (0 : Int64))), .second, .val (.int (0 : Int32))] [(.ref a4), (.int (0 : Int32))])) rfl rfl (hb hby d10_14) ?_
  refine own_go (fun t k => XS.icmpNo X2.here hx rfl (hb hby d10_15) rfl (tlt (by decide : (0 : Int32) < (1 : Int32))).2.1 k) ?_
  show own_Run p e below Φ (T2.setTop (mkF m 18 #[.val (.ref a1), .val (.ref a2), .val (.double (FP.l2d (0 : Int64))), .second, .val (.int (0 : Int32))] []))
  refine own_go (fun t k => XS.dloadN X2.here hx rfl (hb hby d10_18) rfl  k) ?_
  refine own_go (fun t k => XS.aloadN X2.here hx rfl (hb hby d10_19) rfl rfl  k) ?_
  obtain ⟨T3, X3, e3, st3⟩ := getF X2 hx hZ hown (host := "") (Or.inl (hw _ (List.mem_of_getElem? (i := 18) rfl))) Via.refl e2 H3 (g := (mkF m 20 #[.val (.ref a1), .val (.ref a2), .val (.double (FP.l2d (0 : Int64))), .second, .val (.int (0 : Int32))] [(.ref a1), (.double (FP.l2d (0 : Int64)))])) rfl rfl (hb hby d10_20)
  refine own_go st3 ?_
  refine own_go (fun t k => XS.iload X3.here hx rfl (hb hby d10_23) rfl  k) ?_
  refine own_daload X3 hx hZ e3 H5 (j := (0 : Int32)) (v := (.double (FP.l2d (1 : Int64)))) ⟨by decide, by decide⟩ rfl (g := (mkF m 25 #[.val (.ref a1), .val (.ref a2), .val (.double (FP.l2d (0 : Int64))), .second, .val (.int (0 : Int32))] [(.int (0 : Int32)), (.ref a5), (.double (FP.l2d (0 : Int64)))])) rfl rfl (hb hby d10_25) ?_
  show own_Run p e below Φ (T3.setTop (mkF m 26 #[.val (.ref a1), .val (.ref a2), .val (.double (FP.l2d (0 : Int64))), .second, .val (.int (0 : Int32))] [(.double (FP.l2d (1 : Int64))), (.double (FP.l2d (0 : Int64)))]))
  refine own_go (fun t k => XS.aloadN X3.here hx rfl (hb hby d10_26) rfl rfl  k) ?_
  refine own_go (fun t k => XS.aloadN X3.here hx rfl (hb hby d10_27) rfl rfl  k) ?_
  obtain ⟨T4, X4, e4, st4⟩ := getF X3 hx hZ hown (host := "") (Or.inl (hw _ (List.mem_of_getElem? (i := 16) rfl))) Via.refl e3 H2 (g := (mkF m 28 #[.val (.ref a1), .val (.ref a2), .val (.double (FP.l2d (0 : Int64))), .second, .val (.int (0 : Int32))] [(.ref a1), (.ref a2), (.double (FP.l2d (1 : Int64))), (.double (FP.l2d (0 : Int64)))])) rfl rfl (hb hby d10_28)
  refine own_go st4 ?_
  refine own_go (fun t k => XS.iload X4.here hx rfl (hb hby d10_31) rfl  k) ?_
  refine own_iaload X4 hx hZ e4 H4 (j := (0 : Int32)) (v := (.int (2 : Int32))) ⟨by decide, by decide⟩ rfl (g := (mkF m 33 #[.val (.ref a1), .val (.ref a2), .val (.double (FP.l2d (0 : Int64))), .second, .val (.int (0 : Int32))] [(.int (0 : Int32)), (.ref a4), (.ref a2), (.double (FP.l2d (1 : Int64))), (.double (FP.l2d (0 : Int64)))])) rfl rfl (hb hby d10_33) ?_
  show own_Run p e below Φ (T4.setTop (mkF m 34 #[.val (.ref a1), .val (.ref a2), .val (.double (FP.l2d (0 : Int64))), .second, .val (.int (0 : Int32))] [(.int (2 : Int32)), (.ref a2), (.double (FP.l2d (1 : Int64))), (.double (FP.l2d (0 : Int64)))]))
  refine own_daload X4 hx hZ e4 H6 (j := (2 : Int32)) (v := (.double (FP.l2d (p6.toInt64)))) ⟨by decide, by decide⟩ rfl (g := (mkF m 34 #[.val (.ref a1), .val (.ref a2), .val (.double (FP.l2d (0 : Int64))), .second, .val (.int (0 : Int32))] [(.int (2 : Int32)), (.ref a2), (.double (FP.l2d (1 : Int64))), (.double (FP.l2d (0 : Int64)))])) rfl rfl (hb hby d10_34) ?_
  refine own_go (fun t k => XS.dmulS X4.here hx rfl (v := (FP.l2d (p6.toInt64))) (hb hby d10_35) rfl (nn_w (own_mul1 p6)) (own_mul1 p6) k) ?_
  refine own_go (fun t k => XS.daddS X4.here hx rfl (v := (FP.l2d (p6.toInt64))) (hb hby d10_36) rfl (nn_w (own_add0 p6)) (own_add0 p6) k) ?_
  refine own_go (fun t k => XS.dstoreN X4.here hx rfl (hb hby d10_37) rfl (l' := #[.val (.ref a1), .val (.ref a2), .val (.double (FP.l2d (p6.toInt64))), .second, .val (.int (0 : Int32))]) rfl k) ?_
  refine own_go (fun t k => XS.iinc X4.here hx rfl (hb hby d10_38) rfl (l' := #[.val (.ref a1), .val (.ref a2), .val (.double (FP.l2d (p6.toInt64))), .second, .val (.int ((0 : Int32) + (1 : Int32)))]) rfl k) ?_
  show own_Run p e below Φ (T4.setTop (mkF m 41 #[.val (.ref a1), .val (.ref a2), .val (.double (FP.l2d (p6.toInt64))), .second, .val (.int ((0 : Int32) + (1 : Int32)))] []))
  rw [show ((0 : Int32) + (1 : Int32)) = (1 : Int32) from by decide]
  show own_Run p e below Φ (T4.setTop (mkF m 41 #[.val (.ref a1), .val (.ref a2), .val (.double (FP.l2d (p6.toInt64))), .second, .val (.int (1 : Int32))] []))
  refine own_go (fun t k => XS.goto X4.here hx rfl (pc0 := 41) (pc' := 8) rfl (hb hby d10_41) (by decide) (by decide) k) ?_
  refine own_go (fun t k => XS.iload X4.here hx rfl (hb hby d10_8) rfl  k) ?_
  refine own_go (fun t k => XS.aloadN X4.here hx rfl (hb hby d10_10) rfl rfl  k) ?_
  obtain ⟨T5, X5, e5, st5⟩ := getF X4 hx hZ hown (host := "") (Or.inl (hw _ (List.mem_of_getElem? (i := 16) rfl))) Via.refl e4 H2 (g := (mkF m 11 #[.val (.ref a1), .val (.ref a2), .val (.double (FP.l2d (p6.toInt64))), .second, .val (.int (1 : Int32))] [(.ref a1), (.int (1 : Int32))])) rfl rfl (hb hby d10_11)
  refine own_go st5 ?_
  refine own_arrlen X5 hx hZ e5 H4 (g := (mkF m 14 #[.val (.ref a1), .val (.ref a2), .val (.double (FP.l2d (p6.toInt64))), .second, .val (.int (1 : Int32))] [(.ref a4), (.int (1 : Int32))])) rfl rfl (hb hby d10_14) ?_
  show own_Run p e below Φ (T5.setTop (mkF m 15 #[.val (.ref a1), .val (.ref a2), .val (.double (FP.l2d (p6.toInt64))), .second, .val (.int (1 : Int32))] [(.int (1 : Int32)), (.int (1 : Int32))]))
  refine own_go (fun t k => XS.icmpYes X5.here hx rfl (pc0 := 15) (pc' := 44) rfl (hb hby d10_15) rfl (flt (by decide : ¬ ((1 : Int32) < (1 : Int32)))).2.1 (by decide) (by decide) k) ?_
  refine own_go (fun t k => XS.dloadN X5.here hx rfl (hb hby d10_44) rfl  k) ?_
  subst hΦ
  exact own_retO X5 hx (t := .double) Bd.returns rfl (Or.inr (Or.inr (Or.inl ⟨rfl, rfl, _, rfl⟩))) hlk (hb hby d10_45) e5 ⟨rfl, N0, rfl⟩ (by decide) (by decide)
set_option maxRecDepth 65536 in
set_option maxHeartbeats 40000000 in
theorem rm_val3 (l : Launch) (Z : State) (a0 : Array Value) (hw : ∀ d ∈ tables_1, d.before a0 Z = true) (a1 : Addr) (a2 : Addr) (a4 : Addr) (k4 : ClassId) (a5 : Addr) (k5 : ClassId) (k2 : ClassId) (p6 : Int32) (y0 : UInt64) (y1 : UInt64) (y2 : UInt64) (h0 : Heap) (n0 : Nat) (H1 : Fld Z h0 a1 "com/example/penumbra/penumbra/reasoner/Linear" "constant" "D" (.double (FP.l2d (0 : Int64)))) (H2 : Fld Z h0 a1 "com/example/penumbra/penumbra/reasoner/Linear" "variables" "[I" (.ref a4)) (H3 : Fld Z h0 a1 "com/example/penumbra/penumbra/reasoner/Linear" "coefficients" "[D" (.ref a5)) (H4 : Arv Z h0 a4 k4 .int (1 : Int32) [(.int (3 : Int32))] (.int (0 : Int32))) (H5 : Arv Z h0 a5 k5 .double (1 : Int32) [(.double (FP.l2d (1 : Int64)))] (.double 0)) (H6 : Arv Z h0 a2 k2 .double (4 : Int32) [(.double y0), (.double y1), (.double y2), (.double (FP.l2d (p6.toInt64)))] (.double 0)) :
    own_Met l Z (⟨"com/example/penumbra/penumbra/reasoner/Linear", "valueAt", "([D)D"⟩ : MethodName) prog_104_method_10_code 5 (some .double) ({ frames := 0, cells := 0, slots := 0, locals := 0 } : Room) #[(.ref a1), (.ref a2)] h0 (fun v h L => v = some (.double (FP.l2d (p6.toInt64))) ∧ Fr n0 L ∧ h = h0) := by
  intro ws
  refine MetFree.of_bodySF (plainFor_of_name pn_c1) hisR ?_
  intro p e s m args below meth c s₁ Bd hml0 hP hK
  obtain ⟨rfl, hZ, hh⟩ := hP
  have hx := Bd.exec
  have hby := Bd.bytes
  have hml : c.maxLocals = 5 := hml0
  have hown : s.vm.findClass "com/example/penumbra/penumbra/reasoner/Linear" = some m.cls := findClass_of_methodNamed Bd.named
  have hnm := (name_of_methodNamed Bd.named Bd.method).1
  have hlk : meth.locks = false := Bd.notSynchronized
  have X0 : Stand p l e ({ frames := 0, cells := 0, slots := 0, locals := 0 } : Room) s m #[(.ref a1), (.ref a2)] below meth c s₁ [] 0 0 := Stand.of_body Bd
  have e0 : s₁.heap = h0 := by rw [← hh, Bd.state]; rfl
  have N0 := Fr.nil n0
  refine own_body (Q := fun v h L => v = some (.double (FP.l2d (p6.toInt64))) ∧ Fr n0 L ∧ h = h0) ?_
  generalize hΦ : own_Fin s below _ _ _ = Φ
  refine own_cast (ef_10_RR m a1 a2) ?_
  show own_Run p e below Φ (s₁.setTop (mkF m 0 #[.val (.ref a1), .val (.ref a2), .unset, .unset, .unset] []))
  refine own_go (fun t k => XS.aloadN X0.here hx rfl (hb hby d10_0) rfl rfl  k) ?_
  obtain ⟨T1, X1, e1, st1⟩ := getF X0 hx hZ hown (host := "") (Or.inl (hw _ (List.mem_of_getElem? (i := 14) rfl))) Via.refl e0 H1 (g := (mkF m 1 #[.val (.ref a1), .val (.ref a2), .unset, .unset, .unset] [(.ref a1)])) rfl rfl (hb hby d10_1)
  refine own_go st1 ?_
  refine own_go (fun t k => XS.dstoreN X1.here hx rfl (hb hby d10_4) rfl (l' := #[.val (.ref a1), .val (.ref a2), .val (.double (FP.l2d (0 : Int64))), .second, .unset]) rfl k) ?_
  refine own_go (fun t k => XS.iconst X1.here hx rfl (hb hby d10_5) k) ?_
  refine own_go (fun t k => XS.istore X1.here hx rfl (hb hby d10_6) rfl (l' := #[.val (.ref a1), .val (.ref a2), .val (.double (FP.l2d (0 : Int64))), .second, .val (.int (0 : Int32))]) rfl k) ?_
  show own_Run p e below Φ (T1.setTop (mkF m 8 #[.val (.ref a1), .val (.ref a2), .val (.double (FP.l2d (0 : Int64))), .second, .val (.int (0 : Int32))] []))
  refine own_go (fun t k => XS.iload X1.here hx rfl (hb hby d10_8) rfl  k) ?_
  refine own_go (fun t k => XS.aloadN X1.here hx rfl (hb hby d10_10) rfl rfl  k) ?_
  obtain ⟨T2, X2, e2, st2⟩ := getF X1 hx hZ hown (host := "") (Or.inl (hw _ (List.mem_of_getElem? (i := 16) rfl))) Via.refl e1 H2 (g := (mkF m 11 #[.val (.ref a1), .val (.ref a2), .val (.double (FP.l2d (0 : Int64))), .second, .val (.int (0 : Int32))] [(.ref a1), (.int (0 : Int32))])) rfl rfl (hb hby d10_11)
  refine own_go st2 ?_
  refine own_arrlen X2 hx hZ e2 H4 (g := (mkF m 14 #[.val (.ref a1), .val (.ref a2), .val (.double (FP.l2d (0 : Int64))), .second, .val (.int (0 : Int32))] [(.ref a4), (.int (0 : Int32))])) rfl rfl (hb hby d10_14) ?_
  refine own_go (fun t k => XS.icmpNo X2.here hx rfl (hb hby d10_15) rfl (tlt (by decide : (0 : Int32) < (1 : Int32))).2.1 k) ?_
  show own_Run p e below Φ (T2.setTop (mkF m 18 #[.val (.ref a1), .val (.ref a2), .val (.double (FP.l2d (0 : Int64))), .second, .val (.int (0 : Int32))] []))
  refine own_go (fun t k => XS.dloadN X2.here hx rfl (hb hby d10_18) rfl  k) ?_
  refine own_go (fun t k => XS.aloadN X2.here hx rfl (hb hby d10_19) rfl rfl  k) ?_
  obtain ⟨T3, X3, e3, st3⟩ := getF X2 hx hZ hown (host := "") (Or.inl (hw _ (List.mem_of_getElem? (i := 18) rfl))) Via.refl e2 H3 (g := (mkF m 20 #[.val (.ref a1), .val (.ref a2), .val (.double (FP.l2d (0 : Int64))), .second, .val (.int (0 : Int32))] [(.ref a1), (.double (FP.l2d (0 : Int64)))])) rfl rfl (hb hby d10_20)
  refine own_go st3 ?_
  refine own_go (fun t k => XS.iload X3.here hx rfl (hb hby d10_23) rfl  k) ?_
  refine own_daload X3 hx hZ e3 H5 (j := (0 : Int32)) (v := (.double (FP.l2d (1 : Int64)))) ⟨by decide, by decide⟩ rfl (g := (mkF m 25 #[.val (.ref a1), .val (.ref a2), .val (.double (FP.l2d (0 : Int64))), .second, .val (.int (0 : Int32))] [(.int (0 : Int32)), (.ref a5), (.double (FP.l2d (0 : Int64)))])) rfl rfl (hb hby d10_25) ?_
  show own_Run p e below Φ (T3.setTop (mkF m 26 #[.val (.ref a1), .val (.ref a2), .val (.double (FP.l2d (0 : Int64))), .second, .val (.int (0 : Int32))] [(.double (FP.l2d (1 : Int64))), (.double (FP.l2d (0 : Int64)))]))
  refine own_go (fun t k => XS.aloadN X3.here hx rfl (hb hby d10_26) rfl rfl  k) ?_
  refine own_go (fun t k => XS.aloadN X3.here hx rfl (hb hby d10_27) rfl rfl  k) ?_
  obtain ⟨T4, X4, e4, st4⟩ := getF X3 hx hZ hown (host := "") (Or.inl (hw _ (List.mem_of_getElem? (i := 16) rfl))) Via.refl e3 H2 (g := (mkF m 28 #[.val (.ref a1), .val (.ref a2), .val (.double (FP.l2d (0 : Int64))), .second, .val (.int (0 : Int32))] [(.ref a1), (.ref a2), (.double (FP.l2d (1 : Int64))), (.double (FP.l2d (0 : Int64)))])) rfl rfl (hb hby d10_28)
  refine own_go st4 ?_
  refine own_go (fun t k => XS.iload X4.here hx rfl (hb hby d10_31) rfl  k) ?_
  refine own_iaload X4 hx hZ e4 H4 (j := (0 : Int32)) (v := (.int (3 : Int32))) ⟨by decide, by decide⟩ rfl (g := (mkF m 33 #[.val (.ref a1), .val (.ref a2), .val (.double (FP.l2d (0 : Int64))), .second, .val (.int (0 : Int32))] [(.int (0 : Int32)), (.ref a4), (.ref a2), (.double (FP.l2d (1 : Int64))), (.double (FP.l2d (0 : Int64)))])) rfl rfl (hb hby d10_33) ?_
  show own_Run p e below Φ (T4.setTop (mkF m 34 #[.val (.ref a1), .val (.ref a2), .val (.double (FP.l2d (0 : Int64))), .second, .val (.int (0 : Int32))] [(.int (3 : Int32)), (.ref a2), (.double (FP.l2d (1 : Int64))), (.double (FP.l2d (0 : Int64)))]))
  refine own_daload X4 hx hZ e4 H6 (j := (3 : Int32)) (v := (.double (FP.l2d (p6.toInt64)))) ⟨by decide, by decide⟩ rfl (g := (mkF m 34 #[.val (.ref a1), .val (.ref a2), .val (.double (FP.l2d (0 : Int64))), .second, .val (.int (0 : Int32))] [(.int (3 : Int32)), (.ref a2), (.double (FP.l2d (1 : Int64))), (.double (FP.l2d (0 : Int64)))])) rfl rfl (hb hby d10_34) ?_
  refine own_go (fun t k => XS.dmulS X4.here hx rfl (v := (FP.l2d (p6.toInt64))) (hb hby d10_35) rfl (nn_w (own_mul1 p6)) (own_mul1 p6) k) ?_
  refine own_go (fun t k => XS.daddS X4.here hx rfl (v := (FP.l2d (p6.toInt64))) (hb hby d10_36) rfl (nn_w (own_add0 p6)) (own_add0 p6) k) ?_
  refine own_go (fun t k => XS.dstoreN X4.here hx rfl (hb hby d10_37) rfl (l' := #[.val (.ref a1), .val (.ref a2), .val (.double (FP.l2d (p6.toInt64))), .second, .val (.int (0 : Int32))]) rfl k) ?_
  refine own_go (fun t k => XS.iinc X4.here hx rfl (hb hby d10_38) rfl (l' := #[.val (.ref a1), .val (.ref a2), .val (.double (FP.l2d (p6.toInt64))), .second, .val (.int ((0 : Int32) + (1 : Int32)))]) rfl k) ?_
  show own_Run p e below Φ (T4.setTop (mkF m 41 #[.val (.ref a1), .val (.ref a2), .val (.double (FP.l2d (p6.toInt64))), .second, .val (.int ((0 : Int32) + (1 : Int32)))] []))
  rw [show ((0 : Int32) + (1 : Int32)) = (1 : Int32) from by decide]
  show own_Run p e below Φ (T4.setTop (mkF m 41 #[.val (.ref a1), .val (.ref a2), .val (.double (FP.l2d (p6.toInt64))), .second, .val (.int (1 : Int32))] []))
  refine own_go (fun t k => XS.goto X4.here hx rfl (pc0 := 41) (pc' := 8) rfl (hb hby d10_41) (by decide) (by decide) k) ?_
  refine own_go (fun t k => XS.iload X4.here hx rfl (hb hby d10_8) rfl  k) ?_
  refine own_go (fun t k => XS.aloadN X4.here hx rfl (hb hby d10_10) rfl rfl  k) ?_
  obtain ⟨T5, X5, e5, st5⟩ := getF X4 hx hZ hown (host := "") (Or.inl (hw _ (List.mem_of_getElem? (i := 16) rfl))) Via.refl e4 H2 (g := (mkF m 11 #[.val (.ref a1), .val (.ref a2), .val (.double (FP.l2d (p6.toInt64))), .second, .val (.int (1 : Int32))] [(.ref a1), (.int (1 : Int32))])) rfl rfl (hb hby d10_11)
  refine own_go st5 ?_
  refine own_arrlen X5 hx hZ e5 H4 (g := (mkF m 14 #[.val (.ref a1), .val (.ref a2), .val (.double (FP.l2d (p6.toInt64))), .second, .val (.int (1 : Int32))] [(.ref a4), (.int (1 : Int32))])) rfl rfl (hb hby d10_14) ?_
  show own_Run p e below Φ (T5.setTop (mkF m 15 #[.val (.ref a1), .val (.ref a2), .val (.double (FP.l2d (p6.toInt64))), .second, .val (.int (1 : Int32))] [(.int (1 : Int32)), (.int (1 : Int32))]))
  refine own_go (fun t k => XS.icmpYes X5.here hx rfl (pc0 := 15) (pc' := 44) rfl (hb hby d10_15) rfl (flt (by decide : ¬ ((1 : Int32) < (1 : Int32)))).2.1 (by decide) (by decide) k) ?_
  refine own_go (fun t k => XS.dloadN X5.here hx rfl (hb hby d10_44) rfl  k) ?_
  subst hΦ
  exact own_retO X5 hx (t := .double) Bd.returns rfl (Or.inr (Or.inr (Or.inl ⟨rfl, rfl, _, rfl⟩))) hlk (hb hby d10_45) e5 ⟨rfl, N0, rfl⟩ (by decide) (by decide)
theorem d1_0 : decode prog_104_method_3_code 0 = .ok (.new 8, 3) := by decide +kernel
theorem d1_3 : decode prog_104_method_3_code 3 = .ok (.dup, 1) := by decide +kernel
theorem d1_4 : decode prog_104_method_3_code 4 = .ok (.dconst 0, 1) := by decide +kernel
theorem d1_5 : decode prog_104_method_3_code 5 = .ok (.iconst 1, 1) := by decide +kernel
theorem d1_6 : decode prog_104_method_3_code 6 = .ok (.newarray .int, 2) := by decide +kernel
theorem d1_8 : decode prog_104_method_3_code 8 = .ok (.dup, 1) := by decide +kernel
theorem d1_9 : decode prog_104_method_3_code 9 = .ok (.iconst 0, 1) := by decide +kernel
theorem d1_10 : decode prog_104_method_3_code 10 = .ok (.iload_n 0, 1) := by decide +kernel
theorem d1_11 : decode prog_104_method_3_code 11 = .ok (.iastore, 1) := by decide +kernel
theorem d1_12 : decode prog_104_method_3_code 12 = .ok (.iconst 1, 1) := by decide +kernel
theorem d1_13 : decode prog_104_method_3_code 13 = .ok (.newarray .double, 2) := by decide +kernel
theorem d1_15 : decode prog_104_method_3_code 15 = .ok (.dup, 1) := by decide +kernel
theorem d1_16 : decode prog_104_method_3_code 16 = .ok (.iconst 0, 1) := by decide +kernel
theorem d1_17 : decode prog_104_method_3_code 17 = .ok (.dconst 1, 1) := by decide +kernel
theorem d1_18 : decode prog_104_method_3_code 18 = .ok (.dastore, 1) := by decide +kernel
theorem d1_19 : decode prog_104_method_3_code 19 = .ok (.invokespecial 21, 3) := by decide +kernel
theorem d1_22 : decode prog_104_method_3_code 22 = .ok (.areturn, 1) := by decide +kernel
theorem pd_1 : parseMethodDescriptor "(D[I[D)V" = some ⟨[.double, (.array .int), (.array .double)], none⟩ := by decide +kernel
theorem ef_1_I (m : MethodId) (x0 : Int32) : entryFrame m #[(.int x0)] 1 = mkF m 0 #[.val (.int x0)] [] := by first | (simp [entryFrame, mkF, argsToLocals, Value.category]; done) | rfl
set_option maxRecDepth 65536 in
set_option maxHeartbeats 40000000 in
theorem rm_fac (l : Launch) (Z : State) (a0 : Array Value) (hw : ∀ d ∈ tables_1, d.before a0 Z = true) (p1 : Int32) (h0 : Heap) (n0 : Nat) (H1 : n0 ≤ h0.size) :
    own_Met l Z (⟨"com/example/penumbra/penumbra/reasoner/Linear", "variable", "(I)Lcom/example/penumbra/penumbra/reasoner/Linear;"⟩ : MethodName) prog_104_method_3_code 1 (some (.object "com/example/penumbra/penumbra/reasoner/Linear")) ({ frames := 2, cells := 3, slots := 5, locals := 29 } : Room) #[(.int p1)] h0 (fun v h L => v = some (.ref h0.size) ∧ Fr n0 L ∧ Keep h0 h [] ∧ Exa Z h h0.size "com/example/penumbra/penumbra/reasoner/Linear" ∧ Fld Z h h0.size "com/example/penumbra/penumbra/reasoner/Linear" "constant" "D" (.double (FP.l2d (0 : Int64))) ∧ ∃ (a3 : Addr) (k3 : ClassId) (a4 : Addr) (k4 : ClassId), n0 ≤ a3 ∧ n0 ≤ a4 ∧ Fld Z h h0.size "com/example/penumbra/penumbra/reasoner/Linear" "variables" "[I" (.ref a3) ∧ Arv Z h a3 k3 .int (1 : Int32) [(.int p1)] (.int (0 : Int32)) ∧ Fld Z h h0.size "com/example/penumbra/penumbra/reasoner/Linear" "coefficients" "[D" (.ref a4) ∧ Arv Z h a4 k4 .double (1 : Int32) [(.double (FP.l2d (1 : Int64)))] (.double 0)) := by
  intro ws
  refine MetFree.of_bodySF (plainFor_of_name pn_c1) hisR ?_
  intro p e s m args below meth c s₁ Bd hml0 hP hK
  obtain ⟨rfl, hZ, hh⟩ := hP
  have hx := Bd.exec
  have hby := Bd.bytes
  have hml : c.maxLocals = 1 := hml0
  have hown : s.vm.findClass "com/example/penumbra/penumbra/reasoner/Linear" = some m.cls := findClass_of_methodNamed Bd.named
  have hnm := (name_of_methodNamed Bd.named Bd.method).1
  have hlk : meth.locks = false := Bd.notSynchronized
  have X0 : Stand p l e ({ frames := 2, cells := 3, slots := 5, locals := 29 } : Room) s m #[(.int p1)] below meth c s₁ [] 0 0 := Stand.of_body Bd
  have e0 : s₁.heap = h0 := by rw [← hh, Bd.state]; rfl
  have N0 := Fr.nil n0
  refine own_body (Q := fun v h L => v = some (.ref h0.size) ∧ Fr n0 L ∧ Keep h0 h [] ∧ Exa Z h h0.size "com/example/penumbra/penumbra/reasoner/Linear" ∧ Fld Z h h0.size "com/example/penumbra/penumbra/reasoner/Linear" "constant" "D" (.double (FP.l2d (0 : Int64))) ∧ ∃ (a3 : Addr) (k3 : ClassId) (a4 : Addr) (k4 : ClassId), n0 ≤ a3 ∧ n0 ≤ a4 ∧ Fld Z h h0.size "com/example/penumbra/penumbra/reasoner/Linear" "variables" "[I" (.ref a3) ∧ Arv Z h a3 k3 .int (1 : Int32) [(.int p1)] (.int (0 : Int32)) ∧ Fld Z h h0.size "com/example/penumbra/penumbra/reasoner/Linear" "coefficients" "[D" (.ref a4) ∧ Arv Z h a4 k4 .double (1 : Int32) [(.double (FP.l2d (1 : Int64)))] (.double 0)) ?_
  generalize hΦ : own_Fin s below _ _ _ = Φ
  refine own_cast (ef_1_I m p1) ?_
  have K0 := Keep.refl h0 []
  show own_Run p e below Φ (s₁.setTop (mkF m 0 #[.val (.int p1)] []))
  obtain ⟨T1, h1, X1, e1, E1, A1, D1, -, st1⟩ := newO X0 hx hZ hown (hw _ (List.mem_of_getElem? (i := 4) rfl)) (hw _ (List.mem_of_getElem? (i := 5) rfl)) (hw _ (List.mem_of_getElem? (i := 2) rfl)) e0 (g := (mkF m 0 #[.val (.int p1)] [])) rfl (hb hby d1_0) (by decide) (by decide)
  refine own_go st1 ?_
  obtain ⟨b1, g1⟩ : ∃ z, z = h0.size := ⟨_, rfl⟩
  rw [← g1] at A1 D1 ⊢
  have G2 : Fld Z h1 b1 "com/example/penumbra/penumbra/reasoner/Linear" "constant" "D" (.double 0) := D1 (Or.inr (hw _ (List.mem_of_getElem? (i := 15) rfl))) (ty := .double) (by decide)
  have G3 : Fld Z h1 b1 "com/example/penumbra/penumbra/reasoner/Linear" "variables" "[I" .null := D1 (Or.inr (hw _ (List.mem_of_getElem? (i := 17) rfl))) (ty := (.array .int)) (by decide)
  have G4 : Fld Z h1 b1 "com/example/penumbra/penumbra/reasoner/Linear" "coefficients" "[D" .null := D1 (Or.inr (hw _ (List.mem_of_getElem? (i := 19) rfl))) (ty := (.array .double)) (by decide)
  refine own_go (fun t k => XS.dup X1.here hx rfl (hb hby d1_3) rfl rfl k) ?_
  refine own_go (fun t k => XS.dconst0 X1.here hx rfl (v := FP.l2d (0 : Int64)) (hb hby d1_4) own_dc0 k) ?_
  refine own_go (fun t k => XS.iconst X1.here hx rfl (hb hby d1_5) k) ?_
  have F6 : n0 ≤ h1.size := (Nat.le_trans H1 E1.1)
  have F7 : Keep h0 h1 [] := (K0.ext E1)
  refine own_newP X1 hx hZ (hw _ (List.mem_of_getElem? (i := 6) rfl)) e1 (g := (mkF m 6 #[.val (.int p1)] [(.int (1 : Int32)), (.double (FP.l2d (0 : Int64))), (.ref b1), (.ref b1)])) rfl (hb hby d1_6) rfl (by decide) 1 (by decide) (by decide) (by decide) (by decide) 1 (fun T5 h5 k5 b5 X5 e5 E5 g5 V5 => ?_)
  have ne_b1_b5 : b1 ≠ b5 := Nat.ne_of_lt (Nat.lt_of_lt_of_le A1.lt (Nat.le_of_eq g5.symm))
  replace V5 : Arv Z h5 b5 k5 .int (1 : Int32) [(.int (0 : Int32))] (.int (0 : Int32)) := V5
  show own_Run p e below Φ (T5.setTop (mkF m 8 #[.val (.int p1)] [(.ref b5), (.double (FP.l2d (0 : Int64))), (.ref b1), (.ref b1)]))
  refine own_go (fun t k => XS.dup X5.here hx rfl (hb hby d1_8) rfl rfl k) ?_
  refine own_go (fun t k => XS.iconst X5.here hx rfl (hb hby d1_9) k) ?_
  refine own_go (fun t k => XS.iloadN X5.here hx rfl (hb hby d1_10) rfl  k) ?_
  refine own_iastore X5 hx hZ e5 V5 (j := (0 : Int32)) ⟨by decide, by decide⟩ 0 rfl (Nat.le_of_ble_eq_true rfl) (g := (mkF m 11 #[.val (.int p1)] [(.int p1), (.int (0 : Int32)), (.ref b5), (.ref b5), (.double (FP.l2d (0 : Int64))), (.ref b1), (.ref b1)])) rfl rfl (hb hby d1_11) (fun T9 h9 X9 e9 W9 V9 => ?_)
  replace V9 : Arv Z h9 b5 k5 .int (1 : Int32) [(.int p1)] (.int (0 : Int32)) := V9
  have N9 := Fr.snoc X9 N0 (Nat.le_trans F6 (Nat.le_of_eq g5.symm))
  refine own_go (fun t k => XS.iconst X9.here hx rfl (hb hby d1_12) k) ?_
  show own_Run p e below Φ (T9.setTop (mkF m 13 #[.val (.int p1)] [(.int (1 : Int32)), (.ref b5), (.double (FP.l2d (0 : Int64))), (.ref b1), (.ref b1)]))
  have F11 : n0 ≤ h9.size := (Nat.le_trans (Nat.le_trans F6 E5.1) (Keep.of_wr W9).1)
  have F12 : Keep h0 h9 [] := ((F7.ext E5).wr W9 (Or.inr (Nat.le_trans F7.1 (Nat.le_of_eq g5.symm))))
  have F13 : Exa Z h9 b1 "com/example/penumbra/penumbra/reasoner/Linear" := ((A1.ext E5).wr W9)
  refine own_newP X9 hx hZ (hw _ (List.mem_of_getElem? (i := 7) rfl)) e9 (g := (mkF m 13 #[.val (.int p1)] [(.int (1 : Int32)), (.ref b5), (.double (FP.l2d (0 : Int64))), (.ref b1), (.ref b1)])) rfl (hb hby d1_13) rfl (by decide) 1 (by decide) (by decide) (by decide) (by decide) 1 (fun T10 h10 k10 b10 X10 e10 E10 g10 V10 => ?_)
  have ne_b1_b10 : b1 ≠ b10 := Nat.ne_of_lt (Nat.lt_of_lt_of_le F13.lt (Nat.le_of_eq g10.symm))
  have ne_b5_b10 : b5 ≠ b10 := Nat.ne_of_lt (Nat.lt_of_lt_of_le V9.lt (Nat.le_of_eq g10.symm))
  replace V10 : Arv Z h10 b10 k10 .double (1 : Int32) [(.double 0)] (.double 0) := V10
  refine own_go (fun t k => XS.dup X10.here hx rfl (hb hby d1_15) rfl rfl k) ?_
  refine own_go (fun t k => XS.iconst X10.here hx rfl (hb hby d1_16) k) ?_
  refine own_go (fun t k => XS.dconst1 X10.here hx rfl (v := FP.l2d (1 : Int64)) (hb hby d1_17) own_dc1 k) ?_
  refine own_dastore X10 hx hZ e10 V10 (j := (0 : Int32)) ⟨by decide, by decide⟩ 0 rfl (Nat.le_of_ble_eq_true rfl) (g := (mkF m 18 #[.val (.int p1)] [(.double (FP.l2d (1 : Int64))), (.int (0 : Int32)), (.ref b10), (.ref b10), (.ref b5), (.double (FP.l2d (0 : Int64))), (.ref b1), (.ref b1)])) rfl rfl (hb hby d1_18) (fun T15 h15 X15 e15 W15 V15 => ?_)
  replace V15 : Arv Z h15 b10 k10 .double (1 : Int32) [(.double (FP.l2d (1 : Int64)))] (.double 0) := V15
  have N15 := Fr.snoc X15 N9 (Nat.le_trans F11 (Nat.le_of_eq g10.symm))
  show own_Run p e below Φ (T15.setTop (mkF m 19 #[.val (.int p1)] [(.ref b10), (.ref b5), (.double (FP.l2d (0 : Int64))), (.ref b1), (.ref b1)]))
  have F16 : Exa Z h15 b1 "com/example/penumbra/penumbra/reasoner/Linear" := ((F13.ext E10).wr W15)
  have F17 : Fld Z h15 b1 "com/example/penumbra/penumbra/reasoner/Linear" "constant" "D" (.double 0) := ((((G2.ext E5).other W9 (Or.inl ne_b1_b5)).ext E10).other W15 (Or.inl ne_b1_b10))
  have F18 : Fld Z h15 b1 "com/example/penumbra/penumbra/reasoner/Linear" "variables" "[I" .null := ((((G3.ext E5).other W9 (Or.inl ne_b1_b5)).ext E10).other W15 (Or.inl ne_b1_b10))
  have F19 : Fld Z h15 b1 "com/example/penumbra/penumbra/reasoner/Linear" "coefficients" "[D" .null := ((((G4.ext E5).other W9 (Or.inl ne_b1_b5)).ext E10).other W15 (Or.inl ne_b1_b10))
  refine own_callI X15 hx hZ (y := (⟨"com/example/penumbra/penumbra/reasoner/Linear", "<init>", "(D[I[D)V"⟩ : MethodName)) (W := 1) (a := b1) (argsL := [(.double (FP.l2d (0 : Int64))), (.ref b5), (.ref b10)]) (rest := [(.ref b1)]) rfl hown (hw _ (List.mem_of_getElem? (i := 8) rfl)) (hw _ (List.mem_of_getElem? (i := 9) rfl)) (hw _ (List.mem_of_getElem? (i := 10) rfl)) (by decide) (own_bk (rm_init l Z a0 hw b1 (FP.l2d (0 : Int64)) b5 b10 h15 n0 F16 F17 F18 F19 (Nat.le_trans H1 (Nat.le_of_eq g1.symm))) hZ (hw _ (List.mem_of_getElem? (i := 10) rfl)) (hw _ (List.mem_of_getElem? (i := 2) rfl)) (by decide) (by decide)) e15 (g := (mkF m 19 #[.val (.int p1)] [(.ref b10), (.ref b5), (.double (FP.l2d (0 : Int64))), (.ref b1), (.ref b1)])) rfl (by rw [hml]; rfl) (lenOf pd_1 rfl) rfl (by show 2 * 0 + _ ≤ _; exact Nat.le_of_eq rfl) (hb hby d1_19) (by decide) (by decide) (fun v20 T20 h20 L20 X20 e20 q20 => ?_)
  obtain ⟨rfl, M20, K20, P20_0, P20_1, P20_2⟩ := q20
  have N20 := Fr.app N15 M20
  have F21 : Keep h0 h20 [] := (((F12.ext E10).wr W15 (Or.inr (Nat.le_trans F12.1 (Nat.le_of_eq g10.symm)))).trans K20 (allS (P := fun x => x ∈ [] ∨ h0.size ≤ x) (Or.inr (Nat.le_trans K0.1 (Nat.le_of_eq g1.symm))) all0))
  have F22 : Exa Z h20 b1 "com/example/penumbra/penumbra/reasoner/Linear" := (F16.keep K20)
  have Q23 : Exa Z h20 h0.size "com/example/penumbra/penumbra/reasoner/Linear" := by rw [← g1]; exact F22
  have Q24 : Fld Z h20 h0.size "com/example/penumbra/penumbra/reasoner/Linear" "constant" "D" (.double (FP.l2d (0 : Int64))) := by rw [← g1]; exact P20_0
  have F25 : Arv Z h20 b5 k5 .int (1 : Int32) [(.int p1)] (.int (0 : Int32)) := (((V9.ext E10).other W15 ne_b5_b10).keep K20 (ninS (Ne.symm ne_b1_b5) nin0))
  have F26 : Arv Z h20 b10 k10 .double (1 : Int32) [(.double (FP.l2d (1 : Int64)))] (.double 0) := (V15.keep K20 (ninS (Ne.symm ne_b1_b10) nin0))
  subst hΦ
  exact own_retO X20 hx (t := (.object "com/example/penumbra/penumbra/reasoner/Linear")) Bd.returns rfl (Or.inr (Or.inr (Or.inr (Or.inr ⟨rfl, rfl, rfl⟩)))) hlk (hb hby d1_22) e20 ⟨(by rw [g1]), N20, F21, Q23, Q24, ⟨_, _, _, _, (Nat.le_trans F6 (Nat.le_of_eq g5.symm)), (Nat.le_trans F11 (Nat.le_of_eq g10.symm)), by rw [← g1]; exact P20_1, F25, by rw [← g1]; exact P20_2, F26⟩⟩ (by decide) (by decide)
theorem pn_c0 : plainName "com/example/penumbra/penumbra/reasoner/LinearVariablePinLaw" = true := by first | (simp [plainName, overriddenIn]; done) | decide +kernel
theorem pd_0 : parseMethodDescriptor "(I)Lcom/example/penumbra/penumbra/reasoner/Linear;" = some ⟨[.int], some (.object "com/example/penumbra/penumbra/reasoner/Linear")⟩ := by decide +kernel
theorem pd_3 : parseMethodDescriptor "()D" = some ⟨[], some .double⟩ := by decide +kernel
theorem pd_4 : parseMethodDescriptor "()I" = some ⟨[], some .int⟩ := by decide +kernel
theorem pd_5 : parseMethodDescriptor "(I)I" = some ⟨[.int], some .int⟩ := by decide +kernel
theorem pd_6 : parseMethodDescriptor "(I)D" = some ⟨[.int], some .double⟩ := by decide +kernel
theorem pd_8 : parseMethodDescriptor "([D)D" = some ⟨[(.array .double)], some .double⟩ := by decide +kernel
theorem ef_0_III (m : MethodId) (x0 : Int32) (x1 : Int32) (x2 : Int32) : entryFrame m #[(.int x0), (.int x1), (.int x2)] maxLocals = mkF m 0 #[.val (.int x0), .val (.int x1), .val (.int x2), .unset, .unset, .unset, .unset, .unset, .unset, .unset, .unset, .unset, .unset] [] := by first | (simp [entryFrame, mkF, argsToLocals, Value.category, maxLocals]; done) | rfl
set_option maxRecDepth 65536 in
set_option maxHeartbeats 40000000 in
theorem rm_law (l : Launch) (Z : State) (a0 : Array Value) (hw : ∀ d ∈ tables_1, d.before a0 Z = true) (p1 : Int32) (p2 : Int32) (p3 : Int32) (h0 : Heap) (n0 : Nat) (Z0 : n0 ≤ h0.size) :
    own_Met l Z x code maxLocals ret room_1 #[(.int p1), (.int p2), (.int p3)] h0 (fun v h L => v = some (.int 1) ∧ Fr n0 L) := by
  intro ws
  refine MetFree.of_bodySF (plainFor_of_name pn_c0) hisR ?_
  intro p e s m args below meth c s₁ Bd hml0 hP hK
  obtain ⟨rfl, hZ, hh⟩ := hP
  have hx := Bd.exec
  have hby := Bd.bytes
  have hml : c.maxLocals = 13 := hml0
  have hown : s.vm.findClass "com/example/penumbra/penumbra/reasoner/LinearVariablePinLaw" = some m.cls := findClass_of_methodNamed Bd.named
  have hnm := (name_of_methodNamed Bd.named Bd.method).1
  have hlk : meth.locks = false := Bd.notSynchronized
  have X0 : Stand p l e room_1 s m #[(.int p1), (.int p2), (.int p3)] below meth c s₁ [] 0 0 := Stand.of_body Bd
  have e0 : s₁.heap = h0 := by rw [← hh, Bd.state]; rfl
  have N0 := Fr.nil n0
  refine own_body (Q := fun v h L => v = some (.int 1) ∧ Fr n0 L) ?_
  generalize hΦ : own_Fin s below _ _ _ = Φ
  refine own_cast (ef_0_III m p1 p2 p3) ?_
  show own_Run p e below Φ (s₁.setTop (mkF m 0 #[.val (.int p1), .val (.int p2), .val (.int p3), .unset, .unset, .unset, .unset, .unset, .unset, .unset, .unset, .unset, .unset] []))
  refine own_go (fun t k => XS.iloadN X0.here hx rfl (hb hby at_0) rfl  k) ?_
  refine own_callS X0 hx hZ (y := (⟨"com/example/penumbra/penumbra/reasoner/Linear", "variable", "(I)Lcom/example/penumbra/penumbra/reasoner/Linear;"⟩ : MethodName)) (W := 0) (argsL := [(.int p1)]) (rest := []) hown (hw _ (List.mem_of_getElem? (i := 0) rfl)) (hw _ (List.mem_of_getElem? (i := 1) rfl)) (hw _ (List.mem_of_getElem? (i := 2) rfl)) (hw _ (List.mem_of_getElem? (i := 3) rfl)) (by decide) (own_bk (rm_fac l Z a0 hw p1 h0 n0 Z0) hZ (hw _ (List.mem_of_getElem? (i := 3) rfl)) (hw _ (List.mem_of_getElem? (i := 2) rfl)) (by decide) (by decide)) e0 (g := (mkF m 1 #[.val (.int p1), .val (.int p2), .val (.int p3), .unset, .unset, .unset, .unset, .unset, .unset, .unset, .unset, .unset, .unset] [(.int p1)])) rfl (by rw [hml]; rfl) (lenOf pd_0 rfl) rfl (by show 2 * 0 + _ ≤ _; exact Nat.le_of_eq rfl) (hb hby at_1) (by decide) (by decide) (fun v1 T1 h1 L1 X1 e1 q1 => ?_)
  obtain ⟨rfl, M1, K1, P1_0, P1_1, P1_2⟩ := q1
  have N1 := Fr.app N0 M1
  obtain ⟨r1, gr1⟩ : ∃ z, z = h0.size := ⟨_, rfl⟩
  rw [← gr1] at P1_0 P1_1 P1_2 ⊢
  obtain ⟨a3_1, k3_1, a4_1, k4_1, g3_1, g4_1, FV_1, VV_1, FC_1, VC_1⟩ := P1_2
  refine own_go (fun t k => XS.astoreN X1.here hx rfl (hb hby at_4) rfl rfl (l' := #[.val (.int p1), .val (.int p2), .val (.int p3), .val (.ref r1), .unset, .unset, .unset, .unset, .unset, .unset, .unset, .unset, .unset]) rfl k) ?_
  refine own_go (fun t k => XS.aloadN X1.here hx rfl (hb hby at_5) rfl rfl  k) ?_
  refine own_callV X1 hx hZ (y := (⟨"com/example/penumbra/penumbra/reasoner/Linear", "constant", "()D"⟩ : MethodName)) (z := (⟨"com/example/penumbra/penumbra/reasoner/Linear", "constant", "()D"⟩ : MethodName)) (W := 0) (a := r1) (argsL := []) (rest := []) hown (hw _ (List.mem_of_getElem? (i := 20) rfl)) (hw _ (List.mem_of_getElem? (i := 21) rfl)) (notFace_of_selects (args := #[]) (mvT hZ (hw _ (List.mem_of_getElem? (i := 23) rfl)))) (hw _ (List.mem_of_getElem? (i := 23) rfl)) (hw _ (List.mem_of_getElem? (i := 22) rfl)) (by decide) (own_bk (rm_const l Z a0 hw r1 (FP.l2d (0 : Int64)) h1 n0 P1_1) hZ (hw _ (List.mem_of_getElem? (i := 24) rfl)) (hw _ (List.mem_of_getElem? (i := 2) rfl)) (by decide) (by decide)) e1 P1_0 (g := (mkF m 6 #[.val (.int p1), .val (.int p2), .val (.int p3), .val (.ref r1), .unset, .unset, .unset, .unset, .unset, .unset, .unset, .unset, .unset] [(.ref r1)])) rfl (by rw [hml]; rfl) (lenOf pd_3 rfl) rfl (by show 2 * 0 + _ ≤ _; exact Nat.le_of_eq rfl) (hb hby at_6) (by decide) (by decide) (fun v2 T2 h2 L2 X2 e2 q2 => ?_)
  obtain ⟨rfl, M2, s2⟩ := q2
  replace e2 : T2.heap = h1 := e2.trans s2
  have N2 := Fr.app N1 M2
  show own_Run p e below Φ (T2.setTop (mkF m 9 #[.val (.int p1), .val (.int p2), .val (.int p3), .val (.ref r1), .unset, .unset, .unset, .unset, .unset, .unset, .unset, .unset, .unset] [(.double (FP.l2d (0 : Int64)))]))
  refine own_go (fun t k => XS.dconst0 X2.here hx rfl (v := FP.l2d (0 : Int64)) (hb hby at_9) own_dc0 k) ?_
  refine own_go (fun t k => XS.dcmpS X2.here hx rfl (v := (0 : Int32)) (hb hby at_10) rfl (own_dself _ _) k) ?_
  refine own_go (fun t k => XS.ifNo X2.here hx rfl (hb hby at_11) rfl ((if0 _ _).trans (teq (rfl : (0 : Int32) = (0 : Int32))).2) k) ?_
  refine own_go (fun t k => XS.iconst X2.here hx rfl (hb hby at_14) k) ?_
  refine own_go (fun t k => XS.goto X2.here hx rfl (pc0 := 15) (pc' := 19) rfl (hb hby at_15) (by decide) (by decide) k) ?_
  show own_Run p e below Φ (T2.setTop (mkF m 19 #[.val (.int p1), .val (.int p2), .val (.int p3), .val (.ref r1), .unset, .unset, .unset, .unset, .unset, .unset, .unset, .unset, .unset] [(.int (1 : Int32))]))
  refine own_go (fun t k => XS.istore X2.here hx rfl (hb hby at_19) rfl (l' := #[.val (.int p1), .val (.int p2), .val (.int p3), .val (.ref r1), .val (.int (1 : Int32)), .unset, .unset, .unset, .unset, .unset, .unset, .unset, .unset]) rfl k) ?_
  refine own_go (fun t k => XS.iload X2.here hx rfl (hb hby at_21) rfl  k) ?_
  refine own_go (fun t k => XS.ifNo X2.here hx rfl (hb hby at_23) rfl ((if0 _ _).trans (feq (by decide : ¬ ((1 : Int32) = (0 : Int32)))).1) k) ?_
  refine own_go (fun t k => XS.aloadN X2.here hx rfl (hb hby at_26) rfl rfl  k) ?_
  refine own_callV X2 hx hZ (y := (⟨"com/example/penumbra/penumbra/reasoner/Linear", "size", "()I"⟩ : MethodName)) (z := (⟨"com/example/penumbra/penumbra/reasoner/Linear", "size", "()I"⟩ : MethodName)) (W := 0) (a := r1) (argsL := []) (rest := []) hown (hw _ (List.mem_of_getElem? (i := 25) rfl)) (hw _ (List.mem_of_getElem? (i := 26) rfl)) (notFace_of_selects (args := #[]) (mvT hZ (hw _ (List.mem_of_getElem? (i := 28) rfl)))) (hw _ (List.mem_of_getElem? (i := 28) rfl)) (hw _ (List.mem_of_getElem? (i := 27) rfl)) (by decide) (own_bk (rm_size l Z a0 hw r1 a3_1 k3_1 (1 : Int32) _ h1 n0 FV_1 VV_1) hZ (hw _ (List.mem_of_getElem? (i := 29) rfl)) (hw _ (List.mem_of_getElem? (i := 2) rfl)) (by decide) (by decide)) e2 P1_0 (g := (mkF m 27 #[.val (.int p1), .val (.int p2), .val (.int p3), .val (.ref r1), .val (.int (1 : Int32)), .unset, .unset, .unset, .unset, .unset, .unset, .unset, .unset] [(.ref r1)])) rfl (by rw [hml]; rfl) (lenOf pd_4 rfl) rfl (by show 2 * 0 + _ ≤ _; exact Nat.le_of_eq rfl) (hb hby at_27) (by decide) (by decide) (fun v3 T3 h3 L3 X3 e3 q3 => ?_)
  obtain ⟨rfl, M3, s3⟩ := q3
  replace e3 : T3.heap = h1 := e3.trans s3
  have N3 := Fr.app N2 M3
  show own_Run p e below Φ (T3.setTop (mkF m 30 #[.val (.int p1), .val (.int p2), .val (.int p3), .val (.ref r1), .val (.int (1 : Int32)), .unset, .unset, .unset, .unset, .unset, .unset, .unset, .unset] [(.int (1 : Int32))]))
  refine own_go (fun t k => XS.iconst X3.here hx rfl (hb hby at_30) k) ?_
  refine own_go (fun t k => XS.icmpNo X3.here hx rfl (hb hby at_31) rfl (teq (rfl : (1 : Int32) = (1 : Int32))).2 k) ?_
  refine own_go (fun t k => XS.iconst X3.here hx rfl (hb hby at_34) k) ?_
  refine own_go (fun t k => XS.goto X3.here hx rfl (pc0 := 35) (pc' := 39) rfl (hb hby at_35) (by decide) (by decide) k) ?_
  refine own_go (fun t k => XS.istore X3.here hx rfl (hb hby at_39) rfl (l' := #[.val (.int p1), .val (.int p2), .val (.int p3), .val (.ref r1), .val (.int (1 : Int32)), .unset, .unset, .unset, .unset, .unset, .unset, .unset, .unset]) rfl k) ?_
  show own_Run p e below Φ (T3.setTop (mkF m 41 #[.val (.int p1), .val (.int p2), .val (.int p3), .val (.ref r1), .val (.int (1 : Int32)), .unset, .unset, .unset, .unset, .unset, .unset, .unset, .unset] []))
  refine own_go (fun t k => XS.iload X3.here hx rfl (hb hby at_41) rfl  k) ?_
  refine own_go (fun t k => XS.ifNo X3.here hx rfl (hb hby at_43) rfl ((if0 _ _).trans (feq (by decide : ¬ ((1 : Int32) = (0 : Int32)))).1) k) ?_
  refine own_go (fun t k => XS.aloadN X3.here hx rfl (hb hby at_46) rfl rfl  k) ?_
  refine own_go (fun t k => XS.iconst X3.here hx rfl (hb hby at_47) k) ?_
  refine own_callV X3 hx hZ (y := (⟨"com/example/penumbra/penumbra/reasoner/Linear", "variableAt", "(I)I"⟩ : MethodName)) (z := (⟨"com/example/penumbra/penumbra/reasoner/Linear", "variableAt", "(I)I"⟩ : MethodName)) (W := 0) (a := r1) (argsL := [(.int (0 : Int32))]) (rest := []) hown (hw _ (List.mem_of_getElem? (i := 30) rfl)) (hw _ (List.mem_of_getElem? (i := 31) rfl)) (notFace_of_selects (args := #[]) (mvT hZ (hw _ (List.mem_of_getElem? (i := 33) rfl)))) (hw _ (List.mem_of_getElem? (i := 33) rfl)) (hw _ (List.mem_of_getElem? (i := 32) rfl)) (by decide) (own_bk (rm_vat l Z a0 hw r1 a3_1 k3_1 p1 h1 n0 FV_1 VV_1) hZ (hw _ (List.mem_of_getElem? (i := 34) rfl)) (hw _ (List.mem_of_getElem? (i := 2) rfl)) (by decide) (by decide)) e3 P1_0 (g := (mkF m 48 #[.val (.int p1), .val (.int p2), .val (.int p3), .val (.ref r1), .val (.int (1 : Int32)), .unset, .unset, .unset, .unset, .unset, .unset, .unset, .unset] [(.int (0 : Int32)), (.ref r1)])) rfl (by rw [hml]; rfl) (lenOf pd_5 rfl) rfl (by show 2 * 0 + _ ≤ _; exact Nat.le_of_eq rfl) (hb hby at_48) (by decide) (by decide) (fun v4 T4 h4 L4 X4 e4 q4 => ?_)
  obtain ⟨rfl, M4, s4⟩ := q4
  replace e4 : T4.heap = h1 := e4.trans s4
  have N4 := Fr.app N3 M4
  show own_Run p e below Φ (T4.setTop (mkF m 51 #[.val (.int p1), .val (.int p2), .val (.int p3), .val (.ref r1), .val (.int (1 : Int32)), .unset, .unset, .unset, .unset, .unset, .unset, .unset, .unset] [(.int p1)]))
  refine own_go (fun t k => XS.iloadN X4.here hx rfl (hb hby at_51) rfl  k) ?_
  refine own_go (fun t k => XS.icmpNo X4.here hx rfl (hb hby at_52) rfl (teq (rfl : p1 = p1)).2 k) ?_
  refine own_go (fun t k => XS.iconst X4.here hx rfl (hb hby at_55) k) ?_
  refine own_go (fun t k => XS.goto X4.here hx rfl (pc0 := 56) (pc' := 60) rfl (hb hby at_56) (by decide) (by decide) k) ?_
  refine own_go (fun t k => XS.istore X4.here hx rfl (hb hby at_60) rfl (l' := #[.val (.int p1), .val (.int p2), .val (.int p3), .val (.ref r1), .val (.int (1 : Int32)), .unset, .unset, .unset, .unset, .unset, .unset, .unset, .unset]) rfl k) ?_
  show own_Run p e below Φ (T4.setTop (mkF m 62 #[.val (.int p1), .val (.int p2), .val (.int p3), .val (.ref r1), .val (.int (1 : Int32)), .unset, .unset, .unset, .unset, .unset, .unset, .unset, .unset] []))
  refine own_go (fun t k => XS.iload X4.here hx rfl (hb hby at_62) rfl  k) ?_
  refine own_go (fun t k => XS.ifNo X4.here hx rfl (hb hby at_64) rfl ((if0 _ _).trans (feq (by decide : ¬ ((1 : Int32) = (0 : Int32)))).1) k) ?_
  refine own_go (fun t k => XS.aloadN X4.here hx rfl (hb hby at_67) rfl rfl  k) ?_
  refine own_go (fun t k => XS.iconst X4.here hx rfl (hb hby at_68) k) ?_
  refine own_callV X4 hx hZ (y := (⟨"com/example/penumbra/penumbra/reasoner/Linear", "coefficientAt", "(I)D"⟩ : MethodName)) (z := (⟨"com/example/penumbra/penumbra/reasoner/Linear", "coefficientAt", "(I)D"⟩ : MethodName)) (W := 0) (a := r1) (argsL := [(.int (0 : Int32))]) (rest := []) hown (hw _ (List.mem_of_getElem? (i := 35) rfl)) (hw _ (List.mem_of_getElem? (i := 36) rfl)) (notFace_of_selects (args := #[]) (mvT hZ (hw _ (List.mem_of_getElem? (i := 38) rfl)))) (hw _ (List.mem_of_getElem? (i := 38) rfl)) (hw _ (List.mem_of_getElem? (i := 37) rfl)) (by decide) (own_bk (rm_cat l Z a0 hw r1 a4_1 k4_1 (FP.l2d (1 : Int64)) h1 n0 FC_1 VC_1) hZ (hw _ (List.mem_of_getElem? (i := 39) rfl)) (hw _ (List.mem_of_getElem? (i := 2) rfl)) (by decide) (by decide)) e4 P1_0 (g := (mkF m 69 #[.val (.int p1), .val (.int p2), .val (.int p3), .val (.ref r1), .val (.int (1 : Int32)), .unset, .unset, .unset, .unset, .unset, .unset, .unset, .unset] [(.int (0 : Int32)), (.ref r1)])) rfl (by rw [hml]; rfl) (lenOf pd_6 rfl) rfl (by show 2 * 0 + _ ≤ _; exact Nat.le_of_eq rfl) (hb hby at_69) (by decide) (by decide) (fun v5 T5 h5 L5 X5 e5 q5 => ?_)
  obtain ⟨rfl, M5, s5⟩ := q5
  replace e5 : T5.heap = h1 := e5.trans s5
  have N5 := Fr.app N4 M5
  show own_Run p e below Φ (T5.setTop (mkF m 72 #[.val (.int p1), .val (.int p2), .val (.int p3), .val (.ref r1), .val (.int (1 : Int32)), .unset, .unset, .unset, .unset, .unset, .unset, .unset, .unset] [(.double (FP.l2d (1 : Int64)))]))
  refine own_go (fun t k => XS.dconst1 X5.here hx rfl (v := FP.l2d (1 : Int64)) (hb hby at_72) own_dc1 k) ?_
  refine own_go (fun t k => XS.dcmpS X5.here hx rfl (v := (0 : Int32)) (hb hby at_73) rfl (own_dself _ _) k) ?_
  refine own_go (fun t k => XS.ifNo X5.here hx rfl (hb hby at_74) rfl ((if0 _ _).trans (teq (rfl : (0 : Int32) = (0 : Int32))).2) k) ?_
  refine own_go (fun t k => XS.iconst X5.here hx rfl (hb hby at_77) k) ?_
  refine own_go (fun t k => XS.goto X5.here hx rfl (pc0 := 78) (pc' := 82) rfl (hb hby at_78) (by decide) (by decide) k) ?_
  show own_Run p e below Φ (T5.setTop (mkF m 82 #[.val (.int p1), .val (.int p2), .val (.int p3), .val (.ref r1), .val (.int (1 : Int32)), .unset, .unset, .unset, .unset, .unset, .unset, .unset, .unset] [(.int (1 : Int32))]))
  refine own_go (fun t k => XS.istore X5.here hx rfl (hb hby at_82) rfl (l' := #[.val (.int p1), .val (.int p2), .val (.int p3), .val (.ref r1), .val (.int (1 : Int32)), .unset, .unset, .unset, .unset, .unset, .unset, .unset, .unset]) rfl k) ?_
  refine own_go (fun t k => XS.iload X5.here hx rfl (hb hby at_84) rfl  k) ?_
  refine own_go (fun t k => XS.ifNo X5.here hx rfl (hb hby at_86) rfl ((if0 _ _).trans (feq (by decide : ¬ ((1 : Int32) = (0 : Int32)))).1) k) ?_
  refine own_go (fun t k => XS.aloadN X5.here hx rfl (hb hby at_89) rfl rfl  k) ?_
  refine own_go (fun t k => XS.iloadN X5.here hx rfl (hb hby at_90) rfl  k) ?_
  show own_Run p e below Φ (T5.setTop (mkF m 91 #[.val (.int p1), .val (.int p2), .val (.int p3), .val (.ref r1), .val (.int (1 : Int32)), .unset, .unset, .unset, .unset, .unset, .unset, .unset, .unset] [(.int p1), (.ref r1)]))
  refine own_callV X5 hx hZ (y := (⟨"com/example/penumbra/penumbra/reasoner/Linear", "termOf", "(I)I"⟩ : MethodName)) (z := (⟨"com/example/penumbra/penumbra/reasoner/Linear", "termOf", "(I)I"⟩ : MethodName)) (W := 0) (a := r1) (argsL := [(.int p1)]) (rest := []) hown (hw _ (List.mem_of_getElem? (i := 40) rfl)) (hw _ (List.mem_of_getElem? (i := 41) rfl)) (notFace_of_selects (args := #[]) (mvT hZ (hw _ (List.mem_of_getElem? (i := 43) rfl)))) (hw _ (List.mem_of_getElem? (i := 43) rfl)) (hw _ (List.mem_of_getElem? (i := 42) rfl)) (by decide) (own_bk (rm_term l Z a0 hw r1 p1 a3_1 k3_1 p1 h1 n0 FV_1 VV_1) hZ (hw _ (List.mem_of_getElem? (i := 44) rfl)) (hw _ (List.mem_of_getElem? (i := 2) rfl)) (by decide) (by decide)) e5 P1_0 (g := (mkF m 91 #[.val (.int p1), .val (.int p2), .val (.int p3), .val (.ref r1), .val (.int (1 : Int32)), .unset, .unset, .unset, .unset, .unset, .unset, .unset, .unset] [(.int p1), (.ref r1)])) rfl (by rw [hml]; rfl) (lenOf pd_5 rfl) rfl (by show 2 * 0 + _ ≤ _; exact Nat.le_of_eq rfl) (hb hby at_91) (by decide) (by decide) (fun v6 T6 h6 L6 X6 e6 q6 => ?_)
  obtain ⟨rfl, M6, s6⟩ := q6
  replace e6 : T6.heap = h1 := e6.trans s6
  have N6 := Fr.app N5 M6
  have hc94 : (if p1 = p1 then (0 : Int32) else (-1 : Int32)) = (0 : Int32) := (if_pos rfl)
  refine own_go (fun t k => XS.ifNo X6.here hx rfl (hb hby at_94) rfl ((if0 _ _).trans (teq hc94).2) k) ?_
  refine own_go (fun t k => XS.iconst X6.here hx rfl (hb hby at_97) k) ?_
  refine own_go (fun t k => XS.goto X6.here hx rfl (pc0 := 98) (pc' := 102) rfl (hb hby at_98) (by decide) (by decide) k) ?_
  refine own_go (fun t k => XS.istore X6.here hx rfl (hb hby at_102) rfl (l' := #[.val (.int p1), .val (.int p2), .val (.int p3), .val (.ref r1), .val (.int (1 : Int32)), .unset, .unset, .unset, .unset, .unset, .unset, .unset, .unset]) rfl k) ?_
  show own_Run p e below Φ (T6.setTop (mkF m 104 #[.val (.int p1), .val (.int p2), .val (.int p3), .val (.ref r1), .val (.int (1 : Int32)), .unset, .unset, .unset, .unset, .unset, .unset, .unset, .unset] []))
  have J114_7 : ∀ (ew : Int32), ((if p1 = p2 then (0 : Int32) else (-1 : Int32)) = ew) → own_Run p e below Φ (T6.setTop (mkF m 114 #[.val (.int p1), .val (.int p2), .val (.int p3), .val (.ref r1), .val (.int (1 : Int32)), .unset, .unset, .unset, .unset, .unset, .unset, .unset, .unset] [(.int ew)])) := by
    intro ew hew
    show own_Run p e below Φ (T6.setTop (mkF m 114 #[.val (.int p1), .val (.int p2), .val (.int p3), .val (.ref r1), .val (.int (1 : Int32)), .unset, .unset, .unset, .unset, .unset, .unset, .unset, .unset] [(.int ew)]))
    refine own_go (fun t k => XS.istore X6.here hx rfl (hb hby at_114) rfl (l' := #[.val (.int p1), .val (.int p2), .val (.int p3), .val (.ref r1), .val (.int (1 : Int32)), .val (.int ew), .unset, .unset, .unset, .unset, .unset, .unset, .unset]) rfl k) ?_
    refine own_go (fun t k => XS.iload X6.here hx rfl (hb hby at_116) rfl  k) ?_
    refine own_go (fun t k => XS.ifNo X6.here hx rfl (hb hby at_118) rfl ((if0 _ _).trans (feq (by decide : ¬ ((1 : Int32) = (0 : Int32)))).1) k) ?_
    refine own_go (fun t k => XS.aloadN X6.here hx rfl (hb hby at_121) rfl rfl  k) ?_
    refine own_go (fun t k => XS.iloadN X6.here hx rfl (hb hby at_122) rfl  k) ?_
    show own_Run p e below Φ (T6.setTop (mkF m 123 #[.val (.int p1), .val (.int p2), .val (.int p3), .val (.ref r1), .val (.int (1 : Int32)), .val (.int ew), .unset, .unset, .unset, .unset, .unset, .unset, .unset] [(.int p2), (.ref r1)]))
    refine own_callV X6 hx hZ (y := (⟨"com/example/penumbra/penumbra/reasoner/Linear", "termOf", "(I)I"⟩ : MethodName)) (z := (⟨"com/example/penumbra/penumbra/reasoner/Linear", "termOf", "(I)I"⟩ : MethodName)) (W := 0) (a := r1) (argsL := [(.int p2)]) (rest := []) hown (hw _ (List.mem_of_getElem? (i := 40) rfl)) (hw _ (List.mem_of_getElem? (i := 41) rfl)) (notFace_of_selects (args := #[]) (mvT hZ (hw _ (List.mem_of_getElem? (i := 43) rfl)))) (hw _ (List.mem_of_getElem? (i := 43) rfl)) (hw _ (List.mem_of_getElem? (i := 42) rfl)) (by decide) (own_bk (rm_term l Z a0 hw r1 p2 a3_1 k3_1 p1 h1 n0 FV_1 VV_1) hZ (hw _ (List.mem_of_getElem? (i := 44) rfl)) (hw _ (List.mem_of_getElem? (i := 2) rfl)) (by decide) (by decide)) e6 P1_0 (g := (mkF m 123 #[.val (.int p1), .val (.int p2), .val (.int p3), .val (.ref r1), .val (.int (1 : Int32)), .val (.int ew), .unset, .unset, .unset, .unset, .unset, .unset, .unset] [(.int p2), (.ref r1)])) rfl (by rw [hml]; rfl) (lenOf pd_5 rfl) rfl (by show 2 * 0 + _ ≤ _; exact Nat.le_of_eq rfl) (hb hby at_123) (by decide) (by decide) (fun v8 T8 h8 L8 X8 e8 q8 => ?_)
    obtain ⟨rfl, M8, s8⟩ := q8
    replace e8 : T8.heap = h1 := e8.trans s8
    have N8 := Fr.app N6 M8
    refine own_go (fun t k => XS.iload X8.here hx rfl (hb hby at_126) rfl  k) ?_
    have hc128 : (if p1 = p2 then (0 : Int32) else (-1 : Int32)) = ew := hew
    refine own_go (fun t k => XS.icmpNo X8.here hx rfl (hb hby at_128) rfl (teq hc128).2 k) ?_
    refine own_go (fun t k => XS.iconst X8.here hx rfl (hb hby at_131) k) ?_
    refine own_go (fun t k => XS.goto X8.here hx rfl (pc0 := 132) (pc' := 136) rfl (hb hby at_132) (by decide) (by decide) k) ?_
    show own_Run p e below Φ (T8.setTop (mkF m 136 #[.val (.int p1), .val (.int p2), .val (.int p3), .val (.ref r1), .val (.int (1 : Int32)), .val (.int ew), .unset, .unset, .unset, .unset, .unset, .unset, .unset] [(.int (1 : Int32))]))
    refine own_go (fun t k => XS.istore X8.here hx rfl (hb hby at_136) rfl (l' := #[.val (.int p1), .val (.int p2), .val (.int p3), .val (.ref r1), .val (.int (1 : Int32)), .val (.int ew), .unset, .unset, .unset, .unset, .unset, .unset, .unset]) rfl k) ?_
    refine own_go (fun t k => XS.iloadN X8.here hx rfl (hb hby at_138) rfl  k) ?_
    refine own_go (fun t k => XS.iconst X8.here hx rfl (hb hby at_139) k) ?_
    refine own_go (fun t k => XS.iand X8.here hx rfl (hb hby at_140) rfl k) ?_
    refine own_go (fun t k => XS.istore X8.here hx rfl (hb hby at_141) rfl (l' := #[.val (.int p1), .val (.int p2), .val (.int p3), .val (.ref r1), .val (.int (1 : Int32)), .val (.int ew), .val (.int (p1 &&& (3 : Int32))), .unset, .unset, .unset, .unset, .unset, .unset]) rfl k) ?_
    show own_Run p e below Φ (T8.setTop (mkF m 143 #[.val (.int p1), .val (.int p2), .val (.int p3), .val (.ref r1), .val (.int (1 : Int32)), .val (.int ew), .val (.int (p1 &&& (3 : Int32))), .unset, .unset, .unset, .unset, .unset, .unset] []))
    rcases own_and3 p1 with e1 | e1 | e1 | e1
    · rw [e1]
      show own_Run p e below Φ (T8.setTop (mkF m 143 #[.val (.int p1), .val (.int p2), .val (.int p3), .val (.ref r1), .val (.int (1 : Int32)), .val (.int ew), .val (.int (0 : Int32)), .unset, .unset, .unset, .unset, .unset, .unset] []))
      refine own_go (fun t k => XS.iloadN X8.here hx rfl (hb hby at_143) rfl  k) ?_
      refine own_go (fun t k => XS.i2dS X8.here hx rfl (v := FP.l2d (p3.toInt64)) (hb hby at_144) rfl (i2d_w _) k) ?_
      refine own_go (fun t k => XS.dstore X8.here hx rfl (hb hby at_145) rfl (l' := #[.val (.int p1), .val (.int p2), .val (.int p3), .val (.ref r1), .val (.int (1 : Int32)), .val (.int ew), .val (.int (0 : Int32)), .val (.double (FP.l2d (p3.toInt64))), .second, .unset, .unset, .unset, .unset]) rfl k) ?_
      refine own_go (fun t k => XS.iloadN X8.here hx rfl (hb hby at_147) rfl  k) ?_
      refine own_go (fun t k => XS.i2dS X8.here hx rfl (v := FP.l2d (p3.toInt64)) (hb hby at_148) rfl (i2d_w _) k) ?_
      show own_Run p e below Φ (T8.setTop (mkF m 149 #[.val (.int p1), .val (.int p2), .val (.int p3), .val (.ref r1), .val (.int (1 : Int32)), .val (.int ew), .val (.int (0 : Int32)), .val (.double (FP.l2d (p3.toInt64))), .second, .unset, .unset, .unset, .unset] [(.double (FP.l2d (p3.toInt64)))]))
      refine own_go (fun t k => XS.dconst1 X8.here hx rfl (v := FP.l2d (1 : Int64)) (hb hby at_149) own_dc1 k) ?_
      refine own_go (fun t k => XS.daddS X8.here hx rfl (v := (FP.l2d (p3.toInt64 + (1 : Int64)))) (hb hby at_150) rfl (nn_w (dadd_w (own_b53 p3) own_b1)) (dadd_w (own_b53 p3) own_b1) k) ?_
      refine own_go (fun t k => XS.dstore X8.here hx rfl (hb hby at_151) rfl (l' := #[.val (.int p1), .val (.int p2), .val (.int p3), .val (.ref r1), .val (.int (1 : Int32)), .val (.int ew), .val (.int (0 : Int32)), .val (.double (FP.l2d (p3.toInt64))), .second, .val (.double (FP.l2d (p3.toInt64 + (1 : Int64)))), .second, .unset, .unset]) rfl k) ?_
      refine own_go (fun t k => XS.iconst X8.here hx rfl (hb hby at_153) k) ?_
      have F10 : n0 ≤ h1.size := (Nat.le_trans Z0 K1.1)
      refine own_newP X8 hx hZ (hw _ (List.mem_of_getElem? (i := 7) rfl)) e8 (g := (mkF m 154 #[.val (.int p1), .val (.int p2), .val (.int p3), .val (.ref r1), .val (.int (1 : Int32)), .val (.int ew), .val (.int (0 : Int32)), .val (.double (FP.l2d (p3.toInt64))), .second, .val (.double (FP.l2d (p3.toInt64 + (1 : Int64)))), .second, .unset, .unset] [(.int (4 : Int32))])) rfl (hb hby at_154) rfl (by decide) 4 (by decide) (by decide) (by decide) (by decide) 4 (fun T9 h9 k9 b9 X9 e9 E9 g9 V9 => ?_)
      replace V9 : Arv Z h9 b9 k9 .double (4 : Int32) [(.double 0), (.double 0), (.double 0), (.double 0)] (.double 0) := V9
      show own_Run p e below Φ (T9.setTop (mkF m 156 #[.val (.int p1), .val (.int p2), .val (.int p3), .val (.ref r1), .val (.int (1 : Int32)), .val (.int ew), .val (.int (0 : Int32)), .val (.double (FP.l2d (p3.toInt64))), .second, .val (.double (FP.l2d (p3.toInt64 + (1 : Int64)))), .second, .unset, .unset] [(.ref b9)]))
      refine own_go (fun t k => XS.dup X9.here hx rfl (hb hby at_156) rfl rfl k) ?_
      refine own_go (fun t k => XS.iconst X9.here hx rfl (hb hby at_157) k) ?_
      refine own_go (fun t k => XS.dload X9.here hx rfl (hb hby at_158) rfl  k) ?_
      refine own_dastore X9 hx hZ e9 V9 (j := (0 : Int32)) ⟨by decide, by decide⟩ 0 rfl (Nat.le_of_ble_eq_true rfl) (g := (mkF m 160 #[.val (.int p1), .val (.int p2), .val (.int p3), .val (.ref r1), .val (.int (1 : Int32)), .val (.int ew), .val (.int (0 : Int32)), .val (.double (FP.l2d (p3.toInt64))), .second, .val (.double (FP.l2d (p3.toInt64 + (1 : Int64)))), .second, .unset, .unset] [(.double (FP.l2d (p3.toInt64 + (1 : Int64)))), (.int (0 : Int32)), (.ref b9), (.ref b9)])) rfl rfl (hb hby at_160) (fun T12 h12 X12 e12 W12 V12 => ?_)
      replace V12 : Arv Z h12 b9 k9 .double (4 : Int32) [(.double (FP.l2d (p3.toInt64 + (1 : Int64)))), (.double 0), (.double 0), (.double 0)] (.double 0) := V12
      have N12 := Fr.snoc X12 N8 (Nat.le_trans F10 (Nat.le_of_eq g9.symm))
      refine own_go (fun t k => XS.dup X12.here hx rfl (hb hby at_161) rfl rfl k) ?_
      show own_Run p e below Φ (T12.setTop (mkF m 162 #[.val (.int p1), .val (.int p2), .val (.int p3), .val (.ref r1), .val (.int (1 : Int32)), .val (.int ew), .val (.int (0 : Int32)), .val (.double (FP.l2d (p3.toInt64))), .second, .val (.double (FP.l2d (p3.toInt64 + (1 : Int64)))), .second, .unset, .unset] [(.ref b9), (.ref b9)]))
      refine own_go (fun t k => XS.iconst X12.here hx rfl (hb hby at_162) k) ?_
      refine own_go (fun t k => XS.dload X12.here hx rfl (hb hby at_163) rfl  k) ?_
      refine own_dastore X12 hx hZ e12 V12 (j := (1 : Int32)) ⟨by decide, by decide⟩ 1 rfl (Nat.le_of_ble_eq_true rfl) (g := (mkF m 165 #[.val (.int p1), .val (.int p2), .val (.int p3), .val (.ref r1), .val (.int (1 : Int32)), .val (.int ew), .val (.int (0 : Int32)), .val (.double (FP.l2d (p3.toInt64))), .second, .val (.double (FP.l2d (p3.toInt64 + (1 : Int64)))), .second, .unset, .unset] [(.double (FP.l2d (p3.toInt64 + (1 : Int64)))), (.int (1 : Int32)), (.ref b9), (.ref b9)])) rfl rfl (hb hby at_165) (fun T13 h13 X13 e13 W13 V13 => ?_)
      replace V13 : Arv Z h13 b9 k9 .double (4 : Int32) [(.double (FP.l2d (p3.toInt64 + (1 : Int64)))), (.double (FP.l2d (p3.toInt64 + (1 : Int64)))), (.double 0), (.double 0)] (.double 0) := V13
      have N13 := Fr.snoc X13 N12 (Nat.le_trans F10 (Nat.le_of_eq g9.symm))
      refine own_go (fun t k => XS.dup X13.here hx rfl (hb hby at_166) rfl rfl k) ?_
      refine own_go (fun t k => XS.iconst X13.here hx rfl (hb hby at_167) k) ?_
      show own_Run p e below Φ (T13.setTop (mkF m 168 #[.val (.int p1), .val (.int p2), .val (.int p3), .val (.ref r1), .val (.int (1 : Int32)), .val (.int ew), .val (.int (0 : Int32)), .val (.double (FP.l2d (p3.toInt64))), .second, .val (.double (FP.l2d (p3.toInt64 + (1 : Int64)))), .second, .unset, .unset] [(.int (2 : Int32)), (.ref b9), (.ref b9)]))
      refine own_go (fun t k => XS.dload X13.here hx rfl (hb hby at_168) rfl  k) ?_
      refine own_dastore X13 hx hZ e13 V13 (j := (2 : Int32)) ⟨by decide, by decide⟩ 2 rfl (Nat.le_of_ble_eq_true rfl) (g := (mkF m 170 #[.val (.int p1), .val (.int p2), .val (.int p3), .val (.ref r1), .val (.int (1 : Int32)), .val (.int ew), .val (.int (0 : Int32)), .val (.double (FP.l2d (p3.toInt64))), .second, .val (.double (FP.l2d (p3.toInt64 + (1 : Int64)))), .second, .unset, .unset] [(.double (FP.l2d (p3.toInt64 + (1 : Int64)))), (.int (2 : Int32)), (.ref b9), (.ref b9)])) rfl rfl (hb hby at_170) (fun T14 h14 X14 e14 W14 V14 => ?_)
      replace V14 : Arv Z h14 b9 k9 .double (4 : Int32) [(.double (FP.l2d (p3.toInt64 + (1 : Int64)))), (.double (FP.l2d (p3.toInt64 + (1 : Int64)))), (.double (FP.l2d (p3.toInt64 + (1 : Int64)))), (.double 0)] (.double 0) := V14
      have N14 := Fr.snoc X14 N13 (Nat.le_trans F10 (Nat.le_of_eq g9.symm))
      refine own_go (fun t k => XS.dup X14.here hx rfl (hb hby at_171) rfl rfl k) ?_
      refine own_go (fun t k => XS.iconst X14.here hx rfl (hb hby at_172) k) ?_
      refine own_go (fun t k => XS.dload X14.here hx rfl (hb hby at_173) rfl  k) ?_
      show own_Run p e below Φ (T14.setTop (mkF m 175 #[.val (.int p1), .val (.int p2), .val (.int p3), .val (.ref r1), .val (.int (1 : Int32)), .val (.int ew), .val (.int (0 : Int32)), .val (.double (FP.l2d (p3.toInt64))), .second, .val (.double (FP.l2d (p3.toInt64 + (1 : Int64)))), .second, .unset, .unset] [(.double (FP.l2d (p3.toInt64 + (1 : Int64)))), (.int (3 : Int32)), (.ref b9), (.ref b9)]))
      refine own_dastore X14 hx hZ e14 V14 (j := (3 : Int32)) ⟨by decide, by decide⟩ 3 rfl (Nat.le_of_ble_eq_true rfl) (g := (mkF m 175 #[.val (.int p1), .val (.int p2), .val (.int p3), .val (.ref r1), .val (.int (1 : Int32)), .val (.int ew), .val (.int (0 : Int32)), .val (.double (FP.l2d (p3.toInt64))), .second, .val (.double (FP.l2d (p3.toInt64 + (1 : Int64)))), .second, .unset, .unset] [(.double (FP.l2d (p3.toInt64 + (1 : Int64)))), (.int (3 : Int32)), (.ref b9), (.ref b9)])) rfl rfl (hb hby at_175) (fun T15 h15 X15 e15 W15 V15 => ?_)
      replace V15 : Arv Z h15 b9 k9 .double (4 : Int32) [(.double (FP.l2d (p3.toInt64 + (1 : Int64)))), (.double (FP.l2d (p3.toInt64 + (1 : Int64)))), (.double (FP.l2d (p3.toInt64 + (1 : Int64)))), (.double (FP.l2d (p3.toInt64 + (1 : Int64))))] (.double 0) := V15
      have N15 := Fr.snoc X15 N14 (Nat.le_trans F10 (Nat.le_of_eq g9.symm))
      refine own_go (fun t k => XS.astore X15.here hx rfl (hb hby at_176) rfl rfl (l' := #[.val (.int p1), .val (.int p2), .val (.int p3), .val (.ref r1), .val (.int (1 : Int32)), .val (.int ew), .val (.int (0 : Int32)), .val (.double (FP.l2d (p3.toInt64))), .second, .val (.double (FP.l2d (p3.toInt64 + (1 : Int64)))), .second, .val (.ref b9), .unset]) rfl k) ?_
      refine own_go (fun t k => XS.aload X15.here hx rfl (hb hby at_178) rfl rfl  k) ?_
      refine own_go (fun t k => XS.iload X15.here hx rfl (hb hby at_180) rfl  k) ?_
      refine own_go (fun t k => XS.dload X15.here hx rfl (hb hby at_182) rfl  k) ?_
      show own_Run p e below Φ (T15.setTop (mkF m 184 #[.val (.int p1), .val (.int p2), .val (.int p3), .val (.ref r1), .val (.int (1 : Int32)), .val (.int ew), .val (.int (0 : Int32)), .val (.double (FP.l2d (p3.toInt64))), .second, .val (.double (FP.l2d (p3.toInt64 + (1 : Int64)))), .second, .val (.ref b9), .unset] [(.double (FP.l2d (p3.toInt64))), (.int (0 : Int32)), (.ref b9)]))
      refine own_dastore X15 hx hZ e15 V15 (j := (0 : Int32)) ⟨by decide, by decide⟩ 0 rfl (Nat.le_of_ble_eq_true rfl) (g := (mkF m 184 #[.val (.int p1), .val (.int p2), .val (.int p3), .val (.ref r1), .val (.int (1 : Int32)), .val (.int ew), .val (.int (0 : Int32)), .val (.double (FP.l2d (p3.toInt64))), .second, .val (.double (FP.l2d (p3.toInt64 + (1 : Int64)))), .second, .val (.ref b9), .unset] [(.double (FP.l2d (p3.toInt64))), (.int (0 : Int32)), (.ref b9)])) rfl rfl (hb hby at_184) (fun T16 h16 X16 e16 W16 V16 => ?_)
      replace V16 : Arv Z h16 b9 k9 .double (4 : Int32) [(.double (FP.l2d (p3.toInt64))), (.double (FP.l2d (p3.toInt64 + (1 : Int64)))), (.double (FP.l2d (p3.toInt64 + (1 : Int64)))), (.double (FP.l2d (p3.toInt64 + (1 : Int64))))] (.double 0) := V16
      have N16 := Fr.snoc X16 N15 (Nat.le_trans F10 (Nat.le_of_eq g9.symm))
      refine own_go (fun t k => XS.iload X16.here hx rfl (hb hby at_185) rfl  k) ?_
      have F17 : n0 ≤ h16.size := (Nat.le_trans (Nat.le_trans (Nat.le_trans (Nat.le_trans (Nat.le_trans (Nat.le_trans F10 E9.1) (Keep.of_wr W12).1) (Keep.of_wr W13).1) (Keep.of_wr W14).1) (Keep.of_wr W15).1) (Keep.of_wr W16).1)
      refine own_callS X16 hx hZ (y := (⟨"com/example/penumbra/penumbra/reasoner/Linear", "variable", "(I)Lcom/example/penumbra/penumbra/reasoner/Linear;"⟩ : MethodName)) (W := 0) (argsL := [(.int (0 : Int32))]) (rest := []) hown (hw _ (List.mem_of_getElem? (i := 0) rfl)) (hw _ (List.mem_of_getElem? (i := 1) rfl)) (hw _ (List.mem_of_getElem? (i := 2) rfl)) (hw _ (List.mem_of_getElem? (i := 3) rfl)) (by decide) (own_bk (rm_fac l Z a0 hw (0 : Int32) h16 n0 F17) hZ (hw _ (List.mem_of_getElem? (i := 3) rfl)) (hw _ (List.mem_of_getElem? (i := 2) rfl)) (by decide) (by decide)) e16 (g := (mkF m 187 #[.val (.int p1), .val (.int p2), .val (.int p3), .val (.ref r1), .val (.int (1 : Int32)), .val (.int ew), .val (.int (0 : Int32)), .val (.double (FP.l2d (p3.toInt64))), .second, .val (.double (FP.l2d (p3.toInt64 + (1 : Int64)))), .second, .val (.ref b9), .unset] [(.int (0 : Int32))])) rfl (by rw [hml]; rfl) (lenOf pd_0 rfl) rfl (by show 2 * 0 + _ ≤ _; exact Nat.le_of_eq rfl) (hb hby at_187) (by decide) (by decide) (fun v18 T18 h18 L18 X18 e18 q18 => ?_)
      obtain ⟨rfl, M18, K18, P18_0, P18_1, P18_2⟩ := q18
      have N18 := Fr.app N16 M18
      obtain ⟨r18, gr18⟩ : ∃ z, z = h16.size := ⟨_, rfl⟩
      rw [← gr18] at P18_0 P18_1 P18_2 ⊢
      have ne_b9_r18 : b9 ≠ r18 := Nat.ne_of_lt (Nat.lt_of_lt_of_le V16.lt (Nat.le_of_eq gr18.symm))
      obtain ⟨a3_18, k3_18, a4_18, k4_18, g3_18, g4_18, FV_18, VV_18, FC_18, VC_18⟩ := P18_2
      refine own_go (fun t k => XS.astore X18.here hx rfl (hb hby at_190) rfl rfl (l' := #[.val (.int p1), .val (.int p2), .val (.int p3), .val (.ref r1), .val (.int (1 : Int32)), .val (.int ew), .val (.int (0 : Int32)), .val (.double (FP.l2d (p3.toInt64))), .second, .val (.double (FP.l2d (p3.toInt64 + (1 : Int64)))), .second, .val (.ref b9), .val (.ref r18)]) rfl k) ?_
      refine own_go (fun t k => XS.iload X18.here hx rfl (hb hby at_192) rfl  k) ?_
      show own_Run p e below Φ (T18.setTop (mkF m 194 #[.val (.int p1), .val (.int p2), .val (.int p3), .val (.ref r1), .val (.int (1 : Int32)), .val (.int ew), .val (.int (0 : Int32)), .val (.double (FP.l2d (p3.toInt64))), .second, .val (.double (FP.l2d (p3.toInt64 + (1 : Int64)))), .second, .val (.ref b9), .val (.ref r18)] [(.int (1 : Int32))]))
      refine own_go (fun t k => XS.ifNo X18.here hx rfl (hb hby at_194) rfl ((if0 _ _).trans (feq (by decide : ¬ ((1 : Int32) = (0 : Int32)))).1) k) ?_
      refine own_go (fun t k => XS.aload X18.here hx rfl (hb hby at_197) rfl rfl  k) ?_
      refine own_go (fun t k => XS.aload X18.here hx rfl (hb hby at_199) rfl rfl  k) ?_
      have F19 : Arv Z h18 b9 k9 .double (4 : Int32) [(.double (FP.l2d (p3.toInt64))), (.double (FP.l2d (p3.toInt64 + (1 : Int64)))), (.double (FP.l2d (p3.toInt64 + (1 : Int64)))), (.double (FP.l2d (p3.toInt64 + (1 : Int64))))] (.double 0) := (V16.keep K18 nin0)
      refine own_callV X18 hx hZ (y := (⟨"com/example/penumbra/penumbra/reasoner/Linear", "valueAt", "([D)D"⟩ : MethodName)) (z := (⟨"com/example/penumbra/penumbra/reasoner/Linear", "valueAt", "([D)D"⟩ : MethodName)) (W := 0) (a := r18) (argsL := [(.ref b9)]) (rest := []) hown (hw _ (List.mem_of_getElem? (i := 48) rfl)) (hw _ (List.mem_of_getElem? (i := 49) rfl)) (notFace_of_selects (args := #[]) (mvT hZ (hw _ (List.mem_of_getElem? (i := 51) rfl)))) (hw _ (List.mem_of_getElem? (i := 51) rfl)) (hw _ (List.mem_of_getElem? (i := 50) rfl)) (by decide) (own_bk (rm_val0 l Z a0 hw r18 b9 a3_18 k3_18 a4_18 k4_18 k9 p3 (FP.l2d (p3.toInt64 + (1 : Int64))) (FP.l2d (p3.toInt64 + (1 : Int64))) (FP.l2d (p3.toInt64 + (1 : Int64))) h18 n0 P18_1 FV_18 FC_18 VV_18 VC_18 F19) hZ (hw _ (List.mem_of_getElem? (i := 52) rfl)) (hw _ (List.mem_of_getElem? (i := 2) rfl)) (by decide) (by decide)) e18 P18_0 (g := (mkF m 201 #[.val (.int p1), .val (.int p2), .val (.int p3), .val (.ref r1), .val (.int (1 : Int32)), .val (.int ew), .val (.int (0 : Int32)), .val (.double (FP.l2d (p3.toInt64))), .second, .val (.double (FP.l2d (p3.toInt64 + (1 : Int64)))), .second, .val (.ref b9), .val (.ref r18)] [(.ref b9), (.ref r18)])) rfl (by rw [hml]; rfl) (lenOf pd_8 rfl) rfl (by show 2 * 0 + _ ≤ _; exact Nat.le_of_eq rfl) (hb hby at_201) (by decide) (by decide) (fun v20 T20 h20 L20 X20 e20 q20 => ?_)
      obtain ⟨rfl, M20, s20⟩ := q20
      replace e20 : T20.heap = h18 := e20.trans s20
      have N20 := Fr.app N18 M20
      refine own_go (fun t k => XS.dload X20.here hx rfl (hb hby at_204) rfl  k) ?_
      show own_Run p e below Φ (T20.setTop (mkF m 206 #[.val (.int p1), .val (.int p2), .val (.int p3), .val (.ref r1), .val (.int (1 : Int32)), .val (.int ew), .val (.int (0 : Int32)), .val (.double (FP.l2d (p3.toInt64))), .second, .val (.double (FP.l2d (p3.toInt64 + (1 : Int64)))), .second, .val (.ref b9), .val (.ref r18)] [(.double (FP.l2d (p3.toInt64))), (.double (FP.l2d (p3.toInt64)))]))
      refine own_go (fun t k => XS.dcmpS X20.here hx rfl (v := (0 : Int32)) (hb hby at_206) rfl (own_dself _ _) k) ?_
      refine own_go (fun t k => XS.ifNo X20.here hx rfl (hb hby at_207) rfl ((if0 _ _).trans (teq (rfl : (0 : Int32) = (0 : Int32))).2) k) ?_
      refine own_go (fun t k => XS.iconst X20.here hx rfl (hb hby at_210) k) ?_
      refine own_go (fun t k => XS.goto X20.here hx rfl (pc0 := 211) (pc' := 215) rfl (hb hby at_211) (by decide) (by decide) k) ?_
      refine own_go (fun t k => XS.istore X20.here hx rfl (hb hby at_215) rfl (l' := #[.val (.int p1), .val (.int p2), .val (.int p3), .val (.ref r1), .val (.int (1 : Int32)), .val (.int ew), .val (.int (0 : Int32)), .val (.double (FP.l2d (p3.toInt64))), .second, .val (.double (FP.l2d (p3.toInt64 + (1 : Int64)))), .second, .val (.ref b9), .val (.ref r18)]) rfl k) ?_
      show own_Run p e below Φ (T20.setTop (mkF m 217 #[.val (.int p1), .val (.int p2), .val (.int p3), .val (.ref r1), .val (.int (1 : Int32)), .val (.int ew), .val (.int (0 : Int32)), .val (.double (FP.l2d (p3.toInt64))), .second, .val (.double (FP.l2d (p3.toInt64 + (1 : Int64)))), .second, .val (.ref b9), .val (.ref r18)] []))
      refine own_go (fun t k => XS.iload X20.here hx rfl (hb hby at_217) rfl  k) ?_
      subst hΦ
      exact own_retN X20 hx (t := .boolean) Bd.returns (by simp) hlk (hb hby at_219) e20 ⟨rfl, N20⟩ (by decide) (by decide)
    · rw [e1]
      show own_Run p e below Φ (T8.setTop (mkF m 143 #[.val (.int p1), .val (.int p2), .val (.int p3), .val (.ref r1), .val (.int (1 : Int32)), .val (.int ew), .val (.int (1 : Int32)), .unset, .unset, .unset, .unset, .unset, .unset] []))
      refine own_go (fun t k => XS.iloadN X8.here hx rfl (hb hby at_143) rfl  k) ?_
      refine own_go (fun t k => XS.i2dS X8.here hx rfl (v := FP.l2d (p3.toInt64)) (hb hby at_144) rfl (i2d_w _) k) ?_
      refine own_go (fun t k => XS.dstore X8.here hx rfl (hb hby at_145) rfl (l' := #[.val (.int p1), .val (.int p2), .val (.int p3), .val (.ref r1), .val (.int (1 : Int32)), .val (.int ew), .val (.int (1 : Int32)), .val (.double (FP.l2d (p3.toInt64))), .second, .unset, .unset, .unset, .unset]) rfl k) ?_
      refine own_go (fun t k => XS.iloadN X8.here hx rfl (hb hby at_147) rfl  k) ?_
      show own_Run p e below Φ (T8.setTop (mkF m 148 #[.val (.int p1), .val (.int p2), .val (.int p3), .val (.ref r1), .val (.int (1 : Int32)), .val (.int ew), .val (.int (1 : Int32)), .val (.double (FP.l2d (p3.toInt64))), .second, .unset, .unset, .unset, .unset] [(.int p3)]))
      refine own_go (fun t k => XS.i2dS X8.here hx rfl (v := FP.l2d (p3.toInt64)) (hb hby at_148) rfl (i2d_w _) k) ?_
      refine own_go (fun t k => XS.dconst1 X8.here hx rfl (v := FP.l2d (1 : Int64)) (hb hby at_149) own_dc1 k) ?_
      refine own_go (fun t k => XS.daddS X8.here hx rfl (v := (FP.l2d (p3.toInt64 + (1 : Int64)))) (hb hby at_150) rfl (nn_w (dadd_w (own_b53 p3) own_b1)) (dadd_w (own_b53 p3) own_b1) k) ?_
      refine own_go (fun t k => XS.dstore X8.here hx rfl (hb hby at_151) rfl (l' := #[.val (.int p1), .val (.int p2), .val (.int p3), .val (.ref r1), .val (.int (1 : Int32)), .val (.int ew), .val (.int (1 : Int32)), .val (.double (FP.l2d (p3.toInt64))), .second, .val (.double (FP.l2d (p3.toInt64 + (1 : Int64)))), .second, .unset, .unset]) rfl k) ?_
      refine own_go (fun t k => XS.iconst X8.here hx rfl (hb hby at_153) k) ?_
      show own_Run p e below Φ (T8.setTop (mkF m 154 #[.val (.int p1), .val (.int p2), .val (.int p3), .val (.ref r1), .val (.int (1 : Int32)), .val (.int ew), .val (.int (1 : Int32)), .val (.double (FP.l2d (p3.toInt64))), .second, .val (.double (FP.l2d (p3.toInt64 + (1 : Int64)))), .second, .unset, .unset] [(.int (4 : Int32))]))
      have F22 : n0 ≤ h1.size := (Nat.le_trans Z0 K1.1)
      refine own_newP X8 hx hZ (hw _ (List.mem_of_getElem? (i := 7) rfl)) e8 (g := (mkF m 154 #[.val (.int p1), .val (.int p2), .val (.int p3), .val (.ref r1), .val (.int (1 : Int32)), .val (.int ew), .val (.int (1 : Int32)), .val (.double (FP.l2d (p3.toInt64))), .second, .val (.double (FP.l2d (p3.toInt64 + (1 : Int64)))), .second, .unset, .unset] [(.int (4 : Int32))])) rfl (hb hby at_154) rfl (by decide) 4 (by decide) (by decide) (by decide) (by decide) 4 (fun T21 h21 k21 b21 X21 e21 E21 g21 V21 => ?_)
      replace V21 : Arv Z h21 b21 k21 .double (4 : Int32) [(.double 0), (.double 0), (.double 0), (.double 0)] (.double 0) := V21
      refine own_go (fun t k => XS.dup X21.here hx rfl (hb hby at_156) rfl rfl k) ?_
      refine own_go (fun t k => XS.iconst X21.here hx rfl (hb hby at_157) k) ?_
      refine own_go (fun t k => XS.dload X21.here hx rfl (hb hby at_158) rfl  k) ?_
      refine own_dastore X21 hx hZ e21 V21 (j := (0 : Int32)) ⟨by decide, by decide⟩ 0 rfl (Nat.le_of_ble_eq_true rfl) (g := (mkF m 160 #[.val (.int p1), .val (.int p2), .val (.int p3), .val (.ref r1), .val (.int (1 : Int32)), .val (.int ew), .val (.int (1 : Int32)), .val (.double (FP.l2d (p3.toInt64))), .second, .val (.double (FP.l2d (p3.toInt64 + (1 : Int64)))), .second, .unset, .unset] [(.double (FP.l2d (p3.toInt64 + (1 : Int64)))), (.int (0 : Int32)), (.ref b21), (.ref b21)])) rfl rfl (hb hby at_160) (fun T24 h24 X24 e24 W24 V24 => ?_)
      replace V24 : Arv Z h24 b21 k21 .double (4 : Int32) [(.double (FP.l2d (p3.toInt64 + (1 : Int64)))), (.double 0), (.double 0), (.double 0)] (.double 0) := V24
      have N24 := Fr.snoc X24 N8 (Nat.le_trans F22 (Nat.le_of_eq g21.symm))
      show own_Run p e below Φ (T24.setTop (mkF m 161 #[.val (.int p1), .val (.int p2), .val (.int p3), .val (.ref r1), .val (.int (1 : Int32)), .val (.int ew), .val (.int (1 : Int32)), .val (.double (FP.l2d (p3.toInt64))), .second, .val (.double (FP.l2d (p3.toInt64 + (1 : Int64)))), .second, .unset, .unset] [(.ref b21)]))
      refine own_go (fun t k => XS.dup X24.here hx rfl (hb hby at_161) rfl rfl k) ?_
      refine own_go (fun t k => XS.iconst X24.here hx rfl (hb hby at_162) k) ?_
      refine own_go (fun t k => XS.dload X24.here hx rfl (hb hby at_163) rfl  k) ?_
      refine own_dastore X24 hx hZ e24 V24 (j := (1 : Int32)) ⟨by decide, by decide⟩ 1 rfl (Nat.le_of_ble_eq_true rfl) (g := (mkF m 165 #[.val (.int p1), .val (.int p2), .val (.int p3), .val (.ref r1), .val (.int (1 : Int32)), .val (.int ew), .val (.int (1 : Int32)), .val (.double (FP.l2d (p3.toInt64))), .second, .val (.double (FP.l2d (p3.toInt64 + (1 : Int64)))), .second, .unset, .unset] [(.double (FP.l2d (p3.toInt64 + (1 : Int64)))), (.int (1 : Int32)), (.ref b21), (.ref b21)])) rfl rfl (hb hby at_165) (fun T25 h25 X25 e25 W25 V25 => ?_)
      replace V25 : Arv Z h25 b21 k21 .double (4 : Int32) [(.double (FP.l2d (p3.toInt64 + (1 : Int64)))), (.double (FP.l2d (p3.toInt64 + (1 : Int64)))), (.double 0), (.double 0)] (.double 0) := V25
      have N25 := Fr.snoc X25 N24 (Nat.le_trans F22 (Nat.le_of_eq g21.symm))
      refine own_go (fun t k => XS.dup X25.here hx rfl (hb hby at_166) rfl rfl k) ?_
      show own_Run p e below Φ (T25.setTop (mkF m 167 #[.val (.int p1), .val (.int p2), .val (.int p3), .val (.ref r1), .val (.int (1 : Int32)), .val (.int ew), .val (.int (1 : Int32)), .val (.double (FP.l2d (p3.toInt64))), .second, .val (.double (FP.l2d (p3.toInt64 + (1 : Int64)))), .second, .unset, .unset] [(.ref b21), (.ref b21)]))
      refine own_go (fun t k => XS.iconst X25.here hx rfl (hb hby at_167) k) ?_
      refine own_go (fun t k => XS.dload X25.here hx rfl (hb hby at_168) rfl  k) ?_
      refine own_dastore X25 hx hZ e25 V25 (j := (2 : Int32)) ⟨by decide, by decide⟩ 2 rfl (Nat.le_of_ble_eq_true rfl) (g := (mkF m 170 #[.val (.int p1), .val (.int p2), .val (.int p3), .val (.ref r1), .val (.int (1 : Int32)), .val (.int ew), .val (.int (1 : Int32)), .val (.double (FP.l2d (p3.toInt64))), .second, .val (.double (FP.l2d (p3.toInt64 + (1 : Int64)))), .second, .unset, .unset] [(.double (FP.l2d (p3.toInt64 + (1 : Int64)))), (.int (2 : Int32)), (.ref b21), (.ref b21)])) rfl rfl (hb hby at_170) (fun T26 h26 X26 e26 W26 V26 => ?_)
      replace V26 : Arv Z h26 b21 k21 .double (4 : Int32) [(.double (FP.l2d (p3.toInt64 + (1 : Int64)))), (.double (FP.l2d (p3.toInt64 + (1 : Int64)))), (.double (FP.l2d (p3.toInt64 + (1 : Int64)))), (.double 0)] (.double 0) := V26
      have N26 := Fr.snoc X26 N25 (Nat.le_trans F22 (Nat.le_of_eq g21.symm))
      refine own_go (fun t k => XS.dup X26.here hx rfl (hb hby at_171) rfl rfl k) ?_
      refine own_go (fun t k => XS.iconst X26.here hx rfl (hb hby at_172) k) ?_
      show own_Run p e below Φ (T26.setTop (mkF m 173 #[.val (.int p1), .val (.int p2), .val (.int p3), .val (.ref r1), .val (.int (1 : Int32)), .val (.int ew), .val (.int (1 : Int32)), .val (.double (FP.l2d (p3.toInt64))), .second, .val (.double (FP.l2d (p3.toInt64 + (1 : Int64)))), .second, .unset, .unset] [(.int (3 : Int32)), (.ref b21), (.ref b21)]))
      refine own_go (fun t k => XS.dload X26.here hx rfl (hb hby at_173) rfl  k) ?_
      refine own_dastore X26 hx hZ e26 V26 (j := (3 : Int32)) ⟨by decide, by decide⟩ 3 rfl (Nat.le_of_ble_eq_true rfl) (g := (mkF m 175 #[.val (.int p1), .val (.int p2), .val (.int p3), .val (.ref r1), .val (.int (1 : Int32)), .val (.int ew), .val (.int (1 : Int32)), .val (.double (FP.l2d (p3.toInt64))), .second, .val (.double (FP.l2d (p3.toInt64 + (1 : Int64)))), .second, .unset, .unset] [(.double (FP.l2d (p3.toInt64 + (1 : Int64)))), (.int (3 : Int32)), (.ref b21), (.ref b21)])) rfl rfl (hb hby at_175) (fun T27 h27 X27 e27 W27 V27 => ?_)
      replace V27 : Arv Z h27 b21 k21 .double (4 : Int32) [(.double (FP.l2d (p3.toInt64 + (1 : Int64)))), (.double (FP.l2d (p3.toInt64 + (1 : Int64)))), (.double (FP.l2d (p3.toInt64 + (1 : Int64)))), (.double (FP.l2d (p3.toInt64 + (1 : Int64))))] (.double 0) := V27
      have N27 := Fr.snoc X27 N26 (Nat.le_trans F22 (Nat.le_of_eq g21.symm))
      refine own_go (fun t k => XS.astore X27.here hx rfl (hb hby at_176) rfl rfl (l' := #[.val (.int p1), .val (.int p2), .val (.int p3), .val (.ref r1), .val (.int (1 : Int32)), .val (.int ew), .val (.int (1 : Int32)), .val (.double (FP.l2d (p3.toInt64))), .second, .val (.double (FP.l2d (p3.toInt64 + (1 : Int64)))), .second, .val (.ref b21), .unset]) rfl k) ?_
      refine own_go (fun t k => XS.aload X27.here hx rfl (hb hby at_178) rfl rfl  k) ?_
      refine own_go (fun t k => XS.iload X27.here hx rfl (hb hby at_180) rfl  k) ?_
      show own_Run p e below Φ (T27.setTop (mkF m 182 #[.val (.int p1), .val (.int p2), .val (.int p3), .val (.ref r1), .val (.int (1 : Int32)), .val (.int ew), .val (.int (1 : Int32)), .val (.double (FP.l2d (p3.toInt64))), .second, .val (.double (FP.l2d (p3.toInt64 + (1 : Int64)))), .second, .val (.ref b21), .unset] [(.int (1 : Int32)), (.ref b21)]))
      refine own_go (fun t k => XS.dload X27.here hx rfl (hb hby at_182) rfl  k) ?_
      refine own_dastore X27 hx hZ e27 V27 (j := (1 : Int32)) ⟨by decide, by decide⟩ 1 rfl (Nat.le_of_ble_eq_true rfl) (g := (mkF m 184 #[.val (.int p1), .val (.int p2), .val (.int p3), .val (.ref r1), .val (.int (1 : Int32)), .val (.int ew), .val (.int (1 : Int32)), .val (.double (FP.l2d (p3.toInt64))), .second, .val (.double (FP.l2d (p3.toInt64 + (1 : Int64)))), .second, .val (.ref b21), .unset] [(.double (FP.l2d (p3.toInt64))), (.int (1 : Int32)), (.ref b21)])) rfl rfl (hb hby at_184) (fun T28 h28 X28 e28 W28 V28 => ?_)
      replace V28 : Arv Z h28 b21 k21 .double (4 : Int32) [(.double (FP.l2d (p3.toInt64 + (1 : Int64)))), (.double (FP.l2d (p3.toInt64))), (.double (FP.l2d (p3.toInt64 + (1 : Int64)))), (.double (FP.l2d (p3.toInt64 + (1 : Int64))))] (.double 0) := V28
      have N28 := Fr.snoc X28 N27 (Nat.le_trans F22 (Nat.le_of_eq g21.symm))
      refine own_go (fun t k => XS.iload X28.here hx rfl (hb hby at_185) rfl  k) ?_
      have F29 : n0 ≤ h28.size := (Nat.le_trans (Nat.le_trans (Nat.le_trans (Nat.le_trans (Nat.le_trans (Nat.le_trans F22 E21.1) (Keep.of_wr W24).1) (Keep.of_wr W25).1) (Keep.of_wr W26).1) (Keep.of_wr W27).1) (Keep.of_wr W28).1)
      refine own_callS X28 hx hZ (y := (⟨"com/example/penumbra/penumbra/reasoner/Linear", "variable", "(I)Lcom/example/penumbra/penumbra/reasoner/Linear;"⟩ : MethodName)) (W := 0) (argsL := [(.int (1 : Int32))]) (rest := []) hown (hw _ (List.mem_of_getElem? (i := 0) rfl)) (hw _ (List.mem_of_getElem? (i := 1) rfl)) (hw _ (List.mem_of_getElem? (i := 2) rfl)) (hw _ (List.mem_of_getElem? (i := 3) rfl)) (by decide) (own_bk (rm_fac l Z a0 hw (1 : Int32) h28 n0 F29) hZ (hw _ (List.mem_of_getElem? (i := 3) rfl)) (hw _ (List.mem_of_getElem? (i := 2) rfl)) (by decide) (by decide)) e28 (g := (mkF m 187 #[.val (.int p1), .val (.int p2), .val (.int p3), .val (.ref r1), .val (.int (1 : Int32)), .val (.int ew), .val (.int (1 : Int32)), .val (.double (FP.l2d (p3.toInt64))), .second, .val (.double (FP.l2d (p3.toInt64 + (1 : Int64)))), .second, .val (.ref b21), .unset] [(.int (1 : Int32))])) rfl (by rw [hml]; rfl) (lenOf pd_0 rfl) rfl (by show 2 * 0 + _ ≤ _; exact Nat.le_of_eq rfl) (hb hby at_187) (by decide) (by decide) (fun v30 T30 h30 L30 X30 e30 q30 => ?_)
      obtain ⟨rfl, M30, K30, P30_0, P30_1, P30_2⟩ := q30
      have N30 := Fr.app N28 M30
      obtain ⟨r30, gr30⟩ : ∃ z, z = h28.size := ⟨_, rfl⟩
      rw [← gr30] at P30_0 P30_1 P30_2 ⊢
      have ne_b21_r30 : b21 ≠ r30 := Nat.ne_of_lt (Nat.lt_of_lt_of_le V28.lt (Nat.le_of_eq gr30.symm))
      obtain ⟨a3_30, k3_30, a4_30, k4_30, g3_30, g4_30, FV_30, VV_30, FC_30, VC_30⟩ := P30_2
      refine own_go (fun t k => XS.astore X30.here hx rfl (hb hby at_190) rfl rfl (l' := #[.val (.int p1), .val (.int p2), .val (.int p3), .val (.ref r1), .val (.int (1 : Int32)), .val (.int ew), .val (.int (1 : Int32)), .val (.double (FP.l2d (p3.toInt64))), .second, .val (.double (FP.l2d (p3.toInt64 + (1 : Int64)))), .second, .val (.ref b21), .val (.ref r30)]) rfl k) ?_
      show own_Run p e below Φ (T30.setTop (mkF m 192 #[.val (.int p1), .val (.int p2), .val (.int p3), .val (.ref r1), .val (.int (1 : Int32)), .val (.int ew), .val (.int (1 : Int32)), .val (.double (FP.l2d (p3.toInt64))), .second, .val (.double (FP.l2d (p3.toInt64 + (1 : Int64)))), .second, .val (.ref b21), .val (.ref r30)] []))
      refine own_go (fun t k => XS.iload X30.here hx rfl (hb hby at_192) rfl  k) ?_
      refine own_go (fun t k => XS.ifNo X30.here hx rfl (hb hby at_194) rfl ((if0 _ _).trans (feq (by decide : ¬ ((1 : Int32) = (0 : Int32)))).1) k) ?_
      refine own_go (fun t k => XS.aload X30.here hx rfl (hb hby at_197) rfl rfl  k) ?_
      refine own_go (fun t k => XS.aload X30.here hx rfl (hb hby at_199) rfl rfl  k) ?_
      have F31 : Arv Z h30 b21 k21 .double (4 : Int32) [(.double (FP.l2d (p3.toInt64 + (1 : Int64)))), (.double (FP.l2d (p3.toInt64))), (.double (FP.l2d (p3.toInt64 + (1 : Int64)))), (.double (FP.l2d (p3.toInt64 + (1 : Int64))))] (.double 0) := (V28.keep K30 nin0)
      refine own_callV X30 hx hZ (y := (⟨"com/example/penumbra/penumbra/reasoner/Linear", "valueAt", "([D)D"⟩ : MethodName)) (z := (⟨"com/example/penumbra/penumbra/reasoner/Linear", "valueAt", "([D)D"⟩ : MethodName)) (W := 0) (a := r30) (argsL := [(.ref b21)]) (rest := []) hown (hw _ (List.mem_of_getElem? (i := 48) rfl)) (hw _ (List.mem_of_getElem? (i := 49) rfl)) (notFace_of_selects (args := #[]) (mvT hZ (hw _ (List.mem_of_getElem? (i := 51) rfl)))) (hw _ (List.mem_of_getElem? (i := 51) rfl)) (hw _ (List.mem_of_getElem? (i := 50) rfl)) (by decide) (own_bk (rm_val1 l Z a0 hw r30 b21 a3_30 k3_30 a4_30 k4_30 k21 p3 (FP.l2d (p3.toInt64 + (1 : Int64))) (FP.l2d (p3.toInt64 + (1 : Int64))) (FP.l2d (p3.toInt64 + (1 : Int64))) h30 n0 P30_1 FV_30 FC_30 VV_30 VC_30 F31) hZ (hw _ (List.mem_of_getElem? (i := 52) rfl)) (hw _ (List.mem_of_getElem? (i := 2) rfl)) (by decide) (by decide)) e30 P30_0 (g := (mkF m 201 #[.val (.int p1), .val (.int p2), .val (.int p3), .val (.ref r1), .val (.int (1 : Int32)), .val (.int ew), .val (.int (1 : Int32)), .val (.double (FP.l2d (p3.toInt64))), .second, .val (.double (FP.l2d (p3.toInt64 + (1 : Int64)))), .second, .val (.ref b21), .val (.ref r30)] [(.ref b21), (.ref r30)])) rfl (by rw [hml]; rfl) (lenOf pd_8 rfl) rfl (by show 2 * 0 + _ ≤ _; exact Nat.le_of_eq rfl) (hb hby at_201) (by decide) (by decide) (fun v32 T32 h32 L32 X32 e32 q32 => ?_)
      obtain ⟨rfl, M32, s32⟩ := q32
      replace e32 : T32.heap = h30 := e32.trans s32
      have N32 := Fr.app N30 M32
      show own_Run p e below Φ (T32.setTop (mkF m 204 #[.val (.int p1), .val (.int p2), .val (.int p3), .val (.ref r1), .val (.int (1 : Int32)), .val (.int ew), .val (.int (1 : Int32)), .val (.double (FP.l2d (p3.toInt64))), .second, .val (.double (FP.l2d (p3.toInt64 + (1 : Int64)))), .second, .val (.ref b21), .val (.ref r30)] [(.double (FP.l2d (p3.toInt64)))]))
      refine own_go (fun t k => XS.dload X32.here hx rfl (hb hby at_204) rfl  k) ?_
      refine own_go (fun t k => XS.dcmpS X32.here hx rfl (v := (0 : Int32)) (hb hby at_206) rfl (own_dself _ _) k) ?_
      refine own_go (fun t k => XS.ifNo X32.here hx rfl (hb hby at_207) rfl ((if0 _ _).trans (teq (rfl : (0 : Int32) = (0 : Int32))).2) k) ?_
      refine own_go (fun t k => XS.iconst X32.here hx rfl (hb hby at_210) k) ?_
      refine own_go (fun t k => XS.goto X32.here hx rfl (pc0 := 211) (pc' := 215) rfl (hb hby at_211) (by decide) (by decide) k) ?_
      show own_Run p e below Φ (T32.setTop (mkF m 215 #[.val (.int p1), .val (.int p2), .val (.int p3), .val (.ref r1), .val (.int (1 : Int32)), .val (.int ew), .val (.int (1 : Int32)), .val (.double (FP.l2d (p3.toInt64))), .second, .val (.double (FP.l2d (p3.toInt64 + (1 : Int64)))), .second, .val (.ref b21), .val (.ref r30)] [(.int (1 : Int32))]))
      refine own_go (fun t k => XS.istore X32.here hx rfl (hb hby at_215) rfl (l' := #[.val (.int p1), .val (.int p2), .val (.int p3), .val (.ref r1), .val (.int (1 : Int32)), .val (.int ew), .val (.int (1 : Int32)), .val (.double (FP.l2d (p3.toInt64))), .second, .val (.double (FP.l2d (p3.toInt64 + (1 : Int64)))), .second, .val (.ref b21), .val (.ref r30)]) rfl k) ?_
      refine own_go (fun t k => XS.iload X32.here hx rfl (hb hby at_217) rfl  k) ?_
      subst hΦ
      exact own_retN X32 hx (t := .boolean) Bd.returns (by simp) hlk (hb hby at_219) e32 ⟨rfl, N32⟩ (by decide) (by decide)
    · rw [e1]
      show own_Run p e below Φ (T8.setTop (mkF m 143 #[.val (.int p1), .val (.int p2), .val (.int p3), .val (.ref r1), .val (.int (1 : Int32)), .val (.int ew), .val (.int (2 : Int32)), .unset, .unset, .unset, .unset, .unset, .unset] []))
      refine own_go (fun t k => XS.iloadN X8.here hx rfl (hb hby at_143) rfl  k) ?_
      refine own_go (fun t k => XS.i2dS X8.here hx rfl (v := FP.l2d (p3.toInt64)) (hb hby at_144) rfl (i2d_w _) k) ?_
      refine own_go (fun t k => XS.dstore X8.here hx rfl (hb hby at_145) rfl (l' := #[.val (.int p1), .val (.int p2), .val (.int p3), .val (.ref r1), .val (.int (1 : Int32)), .val (.int ew), .val (.int (2 : Int32)), .val (.double (FP.l2d (p3.toInt64))), .second, .unset, .unset, .unset, .unset]) rfl k) ?_
      show own_Run p e below Φ (T8.setTop (mkF m 147 #[.val (.int p1), .val (.int p2), .val (.int p3), .val (.ref r1), .val (.int (1 : Int32)), .val (.int ew), .val (.int (2 : Int32)), .val (.double (FP.l2d (p3.toInt64))), .second, .unset, .unset, .unset, .unset] []))
      refine own_go (fun t k => XS.iloadN X8.here hx rfl (hb hby at_147) rfl  k) ?_
      refine own_go (fun t k => XS.i2dS X8.here hx rfl (v := FP.l2d (p3.toInt64)) (hb hby at_148) rfl (i2d_w _) k) ?_
      refine own_go (fun t k => XS.dconst1 X8.here hx rfl (v := FP.l2d (1 : Int64)) (hb hby at_149) own_dc1 k) ?_
      refine own_go (fun t k => XS.daddS X8.here hx rfl (v := (FP.l2d (p3.toInt64 + (1 : Int64)))) (hb hby at_150) rfl (nn_w (dadd_w (own_b53 p3) own_b1)) (dadd_w (own_b53 p3) own_b1) k) ?_
      refine own_go (fun t k => XS.dstore X8.here hx rfl (hb hby at_151) rfl (l' := #[.val (.int p1), .val (.int p2), .val (.int p3), .val (.ref r1), .val (.int (1 : Int32)), .val (.int ew), .val (.int (2 : Int32)), .val (.double (FP.l2d (p3.toInt64))), .second, .val (.double (FP.l2d (p3.toInt64 + (1 : Int64)))), .second, .unset, .unset]) rfl k) ?_
      show own_Run p e below Φ (T8.setTop (mkF m 153 #[.val (.int p1), .val (.int p2), .val (.int p3), .val (.ref r1), .val (.int (1 : Int32)), .val (.int ew), .val (.int (2 : Int32)), .val (.double (FP.l2d (p3.toInt64))), .second, .val (.double (FP.l2d (p3.toInt64 + (1 : Int64)))), .second, .unset, .unset] []))
      refine own_go (fun t k => XS.iconst X8.here hx rfl (hb hby at_153) k) ?_
      have F34 : n0 ≤ h1.size := (Nat.le_trans Z0 K1.1)
      refine own_newP X8 hx hZ (hw _ (List.mem_of_getElem? (i := 7) rfl)) e8 (g := (mkF m 154 #[.val (.int p1), .val (.int p2), .val (.int p3), .val (.ref r1), .val (.int (1 : Int32)), .val (.int ew), .val (.int (2 : Int32)), .val (.double (FP.l2d (p3.toInt64))), .second, .val (.double (FP.l2d (p3.toInt64 + (1 : Int64)))), .second, .unset, .unset] [(.int (4 : Int32))])) rfl (hb hby at_154) rfl (by decide) 4 (by decide) (by decide) (by decide) (by decide) 4 (fun T33 h33 k33 b33 X33 e33 E33 g33 V33 => ?_)
      replace V33 : Arv Z h33 b33 k33 .double (4 : Int32) [(.double 0), (.double 0), (.double 0), (.double 0)] (.double 0) := V33
      refine own_go (fun t k => XS.dup X33.here hx rfl (hb hby at_156) rfl rfl k) ?_
      refine own_go (fun t k => XS.iconst X33.here hx rfl (hb hby at_157) k) ?_
      refine own_go (fun t k => XS.dload X33.here hx rfl (hb hby at_158) rfl  k) ?_
      show own_Run p e below Φ (T33.setTop (mkF m 160 #[.val (.int p1), .val (.int p2), .val (.int p3), .val (.ref r1), .val (.int (1 : Int32)), .val (.int ew), .val (.int (2 : Int32)), .val (.double (FP.l2d (p3.toInt64))), .second, .val (.double (FP.l2d (p3.toInt64 + (1 : Int64)))), .second, .unset, .unset] [(.double (FP.l2d (p3.toInt64 + (1 : Int64)))), (.int (0 : Int32)), (.ref b33), (.ref b33)]))
      refine own_dastore X33 hx hZ e33 V33 (j := (0 : Int32)) ⟨by decide, by decide⟩ 0 rfl (Nat.le_of_ble_eq_true rfl) (g := (mkF m 160 #[.val (.int p1), .val (.int p2), .val (.int p3), .val (.ref r1), .val (.int (1 : Int32)), .val (.int ew), .val (.int (2 : Int32)), .val (.double (FP.l2d (p3.toInt64))), .second, .val (.double (FP.l2d (p3.toInt64 + (1 : Int64)))), .second, .unset, .unset] [(.double (FP.l2d (p3.toInt64 + (1 : Int64)))), (.int (0 : Int32)), (.ref b33), (.ref b33)])) rfl rfl (hb hby at_160) (fun T36 h36 X36 e36 W36 V36 => ?_)
      replace V36 : Arv Z h36 b33 k33 .double (4 : Int32) [(.double (FP.l2d (p3.toInt64 + (1 : Int64)))), (.double 0), (.double 0), (.double 0)] (.double 0) := V36
      have N36 := Fr.snoc X36 N8 (Nat.le_trans F34 (Nat.le_of_eq g33.symm))
      refine own_go (fun t k => XS.dup X36.here hx rfl (hb hby at_161) rfl rfl k) ?_
      refine own_go (fun t k => XS.iconst X36.here hx rfl (hb hby at_162) k) ?_
      refine own_go (fun t k => XS.dload X36.here hx rfl (hb hby at_163) rfl  k) ?_
      refine own_dastore X36 hx hZ e36 V36 (j := (1 : Int32)) ⟨by decide, by decide⟩ 1 rfl (Nat.le_of_ble_eq_true rfl) (g := (mkF m 165 #[.val (.int p1), .val (.int p2), .val (.int p3), .val (.ref r1), .val (.int (1 : Int32)), .val (.int ew), .val (.int (2 : Int32)), .val (.double (FP.l2d (p3.toInt64))), .second, .val (.double (FP.l2d (p3.toInt64 + (1 : Int64)))), .second, .unset, .unset] [(.double (FP.l2d (p3.toInt64 + (1 : Int64)))), (.int (1 : Int32)), (.ref b33), (.ref b33)])) rfl rfl (hb hby at_165) (fun T37 h37 X37 e37 W37 V37 => ?_)
      replace V37 : Arv Z h37 b33 k33 .double (4 : Int32) [(.double (FP.l2d (p3.toInt64 + (1 : Int64)))), (.double (FP.l2d (p3.toInt64 + (1 : Int64)))), (.double 0), (.double 0)] (.double 0) := V37
      have N37 := Fr.snoc X37 N36 (Nat.le_trans F34 (Nat.le_of_eq g33.symm))
      show own_Run p e below Φ (T37.setTop (mkF m 166 #[.val (.int p1), .val (.int p2), .val (.int p3), .val (.ref r1), .val (.int (1 : Int32)), .val (.int ew), .val (.int (2 : Int32)), .val (.double (FP.l2d (p3.toInt64))), .second, .val (.double (FP.l2d (p3.toInt64 + (1 : Int64)))), .second, .unset, .unset] [(.ref b33)]))
      refine own_go (fun t k => XS.dup X37.here hx rfl (hb hby at_166) rfl rfl k) ?_
      refine own_go (fun t k => XS.iconst X37.here hx rfl (hb hby at_167) k) ?_
      refine own_go (fun t k => XS.dload X37.here hx rfl (hb hby at_168) rfl  k) ?_
      refine own_dastore X37 hx hZ e37 V37 (j := (2 : Int32)) ⟨by decide, by decide⟩ 2 rfl (Nat.le_of_ble_eq_true rfl) (g := (mkF m 170 #[.val (.int p1), .val (.int p2), .val (.int p3), .val (.ref r1), .val (.int (1 : Int32)), .val (.int ew), .val (.int (2 : Int32)), .val (.double (FP.l2d (p3.toInt64))), .second, .val (.double (FP.l2d (p3.toInt64 + (1 : Int64)))), .second, .unset, .unset] [(.double (FP.l2d (p3.toInt64 + (1 : Int64)))), (.int (2 : Int32)), (.ref b33), (.ref b33)])) rfl rfl (hb hby at_170) (fun T38 h38 X38 e38 W38 V38 => ?_)
      replace V38 : Arv Z h38 b33 k33 .double (4 : Int32) [(.double (FP.l2d (p3.toInt64 + (1 : Int64)))), (.double (FP.l2d (p3.toInt64 + (1 : Int64)))), (.double (FP.l2d (p3.toInt64 + (1 : Int64)))), (.double 0)] (.double 0) := V38
      have N38 := Fr.snoc X38 N37 (Nat.le_trans F34 (Nat.le_of_eq g33.symm))
      refine own_go (fun t k => XS.dup X38.here hx rfl (hb hby at_171) rfl rfl k) ?_
      show own_Run p e below Φ (T38.setTop (mkF m 172 #[.val (.int p1), .val (.int p2), .val (.int p3), .val (.ref r1), .val (.int (1 : Int32)), .val (.int ew), .val (.int (2 : Int32)), .val (.double (FP.l2d (p3.toInt64))), .second, .val (.double (FP.l2d (p3.toInt64 + (1 : Int64)))), .second, .unset, .unset] [(.ref b33), (.ref b33)]))
      refine own_go (fun t k => XS.iconst X38.here hx rfl (hb hby at_172) k) ?_
      refine own_go (fun t k => XS.dload X38.here hx rfl (hb hby at_173) rfl  k) ?_
      refine own_dastore X38 hx hZ e38 V38 (j := (3 : Int32)) ⟨by decide, by decide⟩ 3 rfl (Nat.le_of_ble_eq_true rfl) (g := (mkF m 175 #[.val (.int p1), .val (.int p2), .val (.int p3), .val (.ref r1), .val (.int (1 : Int32)), .val (.int ew), .val (.int (2 : Int32)), .val (.double (FP.l2d (p3.toInt64))), .second, .val (.double (FP.l2d (p3.toInt64 + (1 : Int64)))), .second, .unset, .unset] [(.double (FP.l2d (p3.toInt64 + (1 : Int64)))), (.int (3 : Int32)), (.ref b33), (.ref b33)])) rfl rfl (hb hby at_175) (fun T39 h39 X39 e39 W39 V39 => ?_)
      replace V39 : Arv Z h39 b33 k33 .double (4 : Int32) [(.double (FP.l2d (p3.toInt64 + (1 : Int64)))), (.double (FP.l2d (p3.toInt64 + (1 : Int64)))), (.double (FP.l2d (p3.toInt64 + (1 : Int64)))), (.double (FP.l2d (p3.toInt64 + (1 : Int64))))] (.double 0) := V39
      have N39 := Fr.snoc X39 N38 (Nat.le_trans F34 (Nat.le_of_eq g33.symm))
      refine own_go (fun t k => XS.astore X39.here hx rfl (hb hby at_176) rfl rfl (l' := #[.val (.int p1), .val (.int p2), .val (.int p3), .val (.ref r1), .val (.int (1 : Int32)), .val (.int ew), .val (.int (2 : Int32)), .val (.double (FP.l2d (p3.toInt64))), .second, .val (.double (FP.l2d (p3.toInt64 + (1 : Int64)))), .second, .val (.ref b33), .unset]) rfl k) ?_
      refine own_go (fun t k => XS.aload X39.here hx rfl (hb hby at_178) rfl rfl  k) ?_
      show own_Run p e below Φ (T39.setTop (mkF m 180 #[.val (.int p1), .val (.int p2), .val (.int p3), .val (.ref r1), .val (.int (1 : Int32)), .val (.int ew), .val (.int (2 : Int32)), .val (.double (FP.l2d (p3.toInt64))), .second, .val (.double (FP.l2d (p3.toInt64 + (1 : Int64)))), .second, .val (.ref b33), .unset] [(.ref b33)]))
      refine own_go (fun t k => XS.iload X39.here hx rfl (hb hby at_180) rfl  k) ?_
      refine own_go (fun t k => XS.dload X39.here hx rfl (hb hby at_182) rfl  k) ?_
      refine own_dastore X39 hx hZ e39 V39 (j := (2 : Int32)) ⟨by decide, by decide⟩ 2 rfl (Nat.le_of_ble_eq_true rfl) (g := (mkF m 184 #[.val (.int p1), .val (.int p2), .val (.int p3), .val (.ref r1), .val (.int (1 : Int32)), .val (.int ew), .val (.int (2 : Int32)), .val (.double (FP.l2d (p3.toInt64))), .second, .val (.double (FP.l2d (p3.toInt64 + (1 : Int64)))), .second, .val (.ref b33), .unset] [(.double (FP.l2d (p3.toInt64))), (.int (2 : Int32)), (.ref b33)])) rfl rfl (hb hby at_184) (fun T40 h40 X40 e40 W40 V40 => ?_)
      replace V40 : Arv Z h40 b33 k33 .double (4 : Int32) [(.double (FP.l2d (p3.toInt64 + (1 : Int64)))), (.double (FP.l2d (p3.toInt64 + (1 : Int64)))), (.double (FP.l2d (p3.toInt64))), (.double (FP.l2d (p3.toInt64 + (1 : Int64))))] (.double 0) := V40
      have N40 := Fr.snoc X40 N39 (Nat.le_trans F34 (Nat.le_of_eq g33.symm))
      refine own_go (fun t k => XS.iload X40.here hx rfl (hb hby at_185) rfl  k) ?_
      have F41 : n0 ≤ h40.size := (Nat.le_trans (Nat.le_trans (Nat.le_trans (Nat.le_trans (Nat.le_trans (Nat.le_trans F34 E33.1) (Keep.of_wr W36).1) (Keep.of_wr W37).1) (Keep.of_wr W38).1) (Keep.of_wr W39).1) (Keep.of_wr W40).1)
      refine own_callS X40 hx hZ (y := (⟨"com/example/penumbra/penumbra/reasoner/Linear", "variable", "(I)Lcom/example/penumbra/penumbra/reasoner/Linear;"⟩ : MethodName)) (W := 0) (argsL := [(.int (2 : Int32))]) (rest := []) hown (hw _ (List.mem_of_getElem? (i := 0) rfl)) (hw _ (List.mem_of_getElem? (i := 1) rfl)) (hw _ (List.mem_of_getElem? (i := 2) rfl)) (hw _ (List.mem_of_getElem? (i := 3) rfl)) (by decide) (own_bk (rm_fac l Z a0 hw (2 : Int32) h40 n0 F41) hZ (hw _ (List.mem_of_getElem? (i := 3) rfl)) (hw _ (List.mem_of_getElem? (i := 2) rfl)) (by decide) (by decide)) e40 (g := (mkF m 187 #[.val (.int p1), .val (.int p2), .val (.int p3), .val (.ref r1), .val (.int (1 : Int32)), .val (.int ew), .val (.int (2 : Int32)), .val (.double (FP.l2d (p3.toInt64))), .second, .val (.double (FP.l2d (p3.toInt64 + (1 : Int64)))), .second, .val (.ref b33), .unset] [(.int (2 : Int32))])) rfl (by rw [hml]; rfl) (lenOf pd_0 rfl) rfl (by show 2 * 0 + _ ≤ _; exact Nat.le_of_eq rfl) (hb hby at_187) (by decide) (by decide) (fun v42 T42 h42 L42 X42 e42 q42 => ?_)
      obtain ⟨rfl, M42, K42, P42_0, P42_1, P42_2⟩ := q42
      have N42 := Fr.app N40 M42
      obtain ⟨r42, gr42⟩ : ∃ z, z = h40.size := ⟨_, rfl⟩
      rw [← gr42] at P42_0 P42_1 P42_2 ⊢
      have ne_b33_r42 : b33 ≠ r42 := Nat.ne_of_lt (Nat.lt_of_lt_of_le V40.lt (Nat.le_of_eq gr42.symm))
      obtain ⟨a3_42, k3_42, a4_42, k4_42, g3_42, g4_42, FV_42, VV_42, FC_42, VC_42⟩ := P42_2
      show own_Run p e below Φ (T42.setTop (mkF m 190 #[.val (.int p1), .val (.int p2), .val (.int p3), .val (.ref r1), .val (.int (1 : Int32)), .val (.int ew), .val (.int (2 : Int32)), .val (.double (FP.l2d (p3.toInt64))), .second, .val (.double (FP.l2d (p3.toInt64 + (1 : Int64)))), .second, .val (.ref b33), .unset] [(.ref r42)]))
      refine own_go (fun t k => XS.astore X42.here hx rfl (hb hby at_190) rfl rfl (l' := #[.val (.int p1), .val (.int p2), .val (.int p3), .val (.ref r1), .val (.int (1 : Int32)), .val (.int ew), .val (.int (2 : Int32)), .val (.double (FP.l2d (p3.toInt64))), .second, .val (.double (FP.l2d (p3.toInt64 + (1 : Int64)))), .second, .val (.ref b33), .val (.ref r42)]) rfl k) ?_
      refine own_go (fun t k => XS.iload X42.here hx rfl (hb hby at_192) rfl  k) ?_
      refine own_go (fun t k => XS.ifNo X42.here hx rfl (hb hby at_194) rfl ((if0 _ _).trans (feq (by decide : ¬ ((1 : Int32) = (0 : Int32)))).1) k) ?_
      refine own_go (fun t k => XS.aload X42.here hx rfl (hb hby at_197) rfl rfl  k) ?_
      refine own_go (fun t k => XS.aload X42.here hx rfl (hb hby at_199) rfl rfl  k) ?_
      show own_Run p e below Φ (T42.setTop (mkF m 201 #[.val (.int p1), .val (.int p2), .val (.int p3), .val (.ref r1), .val (.int (1 : Int32)), .val (.int ew), .val (.int (2 : Int32)), .val (.double (FP.l2d (p3.toInt64))), .second, .val (.double (FP.l2d (p3.toInt64 + (1 : Int64)))), .second, .val (.ref b33), .val (.ref r42)] [(.ref b33), (.ref r42)]))
      have F43 : Arv Z h42 b33 k33 .double (4 : Int32) [(.double (FP.l2d (p3.toInt64 + (1 : Int64)))), (.double (FP.l2d (p3.toInt64 + (1 : Int64)))), (.double (FP.l2d (p3.toInt64))), (.double (FP.l2d (p3.toInt64 + (1 : Int64))))] (.double 0) := (V40.keep K42 nin0)
      refine own_callV X42 hx hZ (y := (⟨"com/example/penumbra/penumbra/reasoner/Linear", "valueAt", "([D)D"⟩ : MethodName)) (z := (⟨"com/example/penumbra/penumbra/reasoner/Linear", "valueAt", "([D)D"⟩ : MethodName)) (W := 0) (a := r42) (argsL := [(.ref b33)]) (rest := []) hown (hw _ (List.mem_of_getElem? (i := 48) rfl)) (hw _ (List.mem_of_getElem? (i := 49) rfl)) (notFace_of_selects (args := #[]) (mvT hZ (hw _ (List.mem_of_getElem? (i := 51) rfl)))) (hw _ (List.mem_of_getElem? (i := 51) rfl)) (hw _ (List.mem_of_getElem? (i := 50) rfl)) (by decide) (own_bk (rm_val2 l Z a0 hw r42 b33 a3_42 k3_42 a4_42 k4_42 k33 p3 (FP.l2d (p3.toInt64 + (1 : Int64))) (FP.l2d (p3.toInt64 + (1 : Int64))) (FP.l2d (p3.toInt64 + (1 : Int64))) h42 n0 P42_1 FV_42 FC_42 VV_42 VC_42 F43) hZ (hw _ (List.mem_of_getElem? (i := 52) rfl)) (hw _ (List.mem_of_getElem? (i := 2) rfl)) (by decide) (by decide)) e42 P42_0 (g := (mkF m 201 #[.val (.int p1), .val (.int p2), .val (.int p3), .val (.ref r1), .val (.int (1 : Int32)), .val (.int ew), .val (.int (2 : Int32)), .val (.double (FP.l2d (p3.toInt64))), .second, .val (.double (FP.l2d (p3.toInt64 + (1 : Int64)))), .second, .val (.ref b33), .val (.ref r42)] [(.ref b33), (.ref r42)])) rfl (by rw [hml]; rfl) (lenOf pd_8 rfl) rfl (by show 2 * 0 + _ ≤ _; exact Nat.le_of_eq rfl) (hb hby at_201) (by decide) (by decide) (fun v44 T44 h44 L44 X44 e44 q44 => ?_)
      obtain ⟨rfl, M44, s44⟩ := q44
      replace e44 : T44.heap = h42 := e44.trans s44
      have N44 := Fr.app N42 M44
      refine own_go (fun t k => XS.dload X44.here hx rfl (hb hby at_204) rfl  k) ?_
      refine own_go (fun t k => XS.dcmpS X44.here hx rfl (v := (0 : Int32)) (hb hby at_206) rfl (own_dself _ _) k) ?_
      refine own_go (fun t k => XS.ifNo X44.here hx rfl (hb hby at_207) rfl ((if0 _ _).trans (teq (rfl : (0 : Int32) = (0 : Int32))).2) k) ?_
      refine own_go (fun t k => XS.iconst X44.here hx rfl (hb hby at_210) k) ?_
      show own_Run p e below Φ (T44.setTop (mkF m 211 #[.val (.int p1), .val (.int p2), .val (.int p3), .val (.ref r1), .val (.int (1 : Int32)), .val (.int ew), .val (.int (2 : Int32)), .val (.double (FP.l2d (p3.toInt64))), .second, .val (.double (FP.l2d (p3.toInt64 + (1 : Int64)))), .second, .val (.ref b33), .val (.ref r42)] [(.int (1 : Int32))]))
      refine own_go (fun t k => XS.goto X44.here hx rfl (pc0 := 211) (pc' := 215) rfl (hb hby at_211) (by decide) (by decide) k) ?_
      refine own_go (fun t k => XS.istore X44.here hx rfl (hb hby at_215) rfl (l' := #[.val (.int p1), .val (.int p2), .val (.int p3), .val (.ref r1), .val (.int (1 : Int32)), .val (.int ew), .val (.int (2 : Int32)), .val (.double (FP.l2d (p3.toInt64))), .second, .val (.double (FP.l2d (p3.toInt64 + (1 : Int64)))), .second, .val (.ref b33), .val (.ref r42)]) rfl k) ?_
      refine own_go (fun t k => XS.iload X44.here hx rfl (hb hby at_217) rfl  k) ?_
      subst hΦ
      exact own_retN X44 hx (t := .boolean) Bd.returns (by simp) hlk (hb hby at_219) e44 ⟨rfl, N44⟩ (by decide) (by decide)
    · rw [e1]
      show own_Run p e below Φ (T8.setTop (mkF m 143 #[.val (.int p1), .val (.int p2), .val (.int p3), .val (.ref r1), .val (.int (1 : Int32)), .val (.int ew), .val (.int (3 : Int32)), .unset, .unset, .unset, .unset, .unset, .unset] []))
      refine own_go (fun t k => XS.iloadN X8.here hx rfl (hb hby at_143) rfl  k) ?_
      refine own_go (fun t k => XS.i2dS X8.here hx rfl (v := FP.l2d (p3.toInt64)) (hb hby at_144) rfl (i2d_w _) k) ?_
      show own_Run p e below Φ (T8.setTop (mkF m 145 #[.val (.int p1), .val (.int p2), .val (.int p3), .val (.ref r1), .val (.int (1 : Int32)), .val (.int ew), .val (.int (3 : Int32)), .unset, .unset, .unset, .unset, .unset, .unset] [(.double (FP.l2d (p3.toInt64)))]))
      refine own_go (fun t k => XS.dstore X8.here hx rfl (hb hby at_145) rfl (l' := #[.val (.int p1), .val (.int p2), .val (.int p3), .val (.ref r1), .val (.int (1 : Int32)), .val (.int ew), .val (.int (3 : Int32)), .val (.double (FP.l2d (p3.toInt64))), .second, .unset, .unset, .unset, .unset]) rfl k) ?_
      refine own_go (fun t k => XS.iloadN X8.here hx rfl (hb hby at_147) rfl  k) ?_
      refine own_go (fun t k => XS.i2dS X8.here hx rfl (v := FP.l2d (p3.toInt64)) (hb hby at_148) rfl (i2d_w _) k) ?_
      refine own_go (fun t k => XS.dconst1 X8.here hx rfl (v := FP.l2d (1 : Int64)) (hb hby at_149) own_dc1 k) ?_
      refine own_go (fun t k => XS.daddS X8.here hx rfl (v := (FP.l2d (p3.toInt64 + (1 : Int64)))) (hb hby at_150) rfl (nn_w (dadd_w (own_b53 p3) own_b1)) (dadd_w (own_b53 p3) own_b1) k) ?_
      show own_Run p e below Φ (T8.setTop (mkF m 151 #[.val (.int p1), .val (.int p2), .val (.int p3), .val (.ref r1), .val (.int (1 : Int32)), .val (.int ew), .val (.int (3 : Int32)), .val (.double (FP.l2d (p3.toInt64))), .second, .unset, .unset, .unset, .unset] [(.double (FP.l2d (p3.toInt64 + (1 : Int64))))]))
      refine own_go (fun t k => XS.dstore X8.here hx rfl (hb hby at_151) rfl (l' := #[.val (.int p1), .val (.int p2), .val (.int p3), .val (.ref r1), .val (.int (1 : Int32)), .val (.int ew), .val (.int (3 : Int32)), .val (.double (FP.l2d (p3.toInt64))), .second, .val (.double (FP.l2d (p3.toInt64 + (1 : Int64)))), .second, .unset, .unset]) rfl k) ?_
      refine own_go (fun t k => XS.iconst X8.here hx rfl (hb hby at_153) k) ?_
      have F46 : n0 ≤ h1.size := (Nat.le_trans Z0 K1.1)
      refine own_newP X8 hx hZ (hw _ (List.mem_of_getElem? (i := 7) rfl)) e8 (g := (mkF m 154 #[.val (.int p1), .val (.int p2), .val (.int p3), .val (.ref r1), .val (.int (1 : Int32)), .val (.int ew), .val (.int (3 : Int32)), .val (.double (FP.l2d (p3.toInt64))), .second, .val (.double (FP.l2d (p3.toInt64 + (1 : Int64)))), .second, .unset, .unset] [(.int (4 : Int32))])) rfl (hb hby at_154) rfl (by decide) 4 (by decide) (by decide) (by decide) (by decide) 4 (fun T45 h45 k45 b45 X45 e45 E45 g45 V45 => ?_)
      replace V45 : Arv Z h45 b45 k45 .double (4 : Int32) [(.double 0), (.double 0), (.double 0), (.double 0)] (.double 0) := V45
      refine own_go (fun t k => XS.dup X45.here hx rfl (hb hby at_156) rfl rfl k) ?_
      refine own_go (fun t k => XS.iconst X45.here hx rfl (hb hby at_157) k) ?_
      show own_Run p e below Φ (T45.setTop (mkF m 158 #[.val (.int p1), .val (.int p2), .val (.int p3), .val (.ref r1), .val (.int (1 : Int32)), .val (.int ew), .val (.int (3 : Int32)), .val (.double (FP.l2d (p3.toInt64))), .second, .val (.double (FP.l2d (p3.toInt64 + (1 : Int64)))), .second, .unset, .unset] [(.int (0 : Int32)), (.ref b45), (.ref b45)]))
      refine own_go (fun t k => XS.dload X45.here hx rfl (hb hby at_158) rfl  k) ?_
      refine own_dastore X45 hx hZ e45 V45 (j := (0 : Int32)) ⟨by decide, by decide⟩ 0 rfl (Nat.le_of_ble_eq_true rfl) (g := (mkF m 160 #[.val (.int p1), .val (.int p2), .val (.int p3), .val (.ref r1), .val (.int (1 : Int32)), .val (.int ew), .val (.int (3 : Int32)), .val (.double (FP.l2d (p3.toInt64))), .second, .val (.double (FP.l2d (p3.toInt64 + (1 : Int64)))), .second, .unset, .unset] [(.double (FP.l2d (p3.toInt64 + (1 : Int64)))), (.int (0 : Int32)), (.ref b45), (.ref b45)])) rfl rfl (hb hby at_160) (fun T48 h48 X48 e48 W48 V48 => ?_)
      replace V48 : Arv Z h48 b45 k45 .double (4 : Int32) [(.double (FP.l2d (p3.toInt64 + (1 : Int64)))), (.double 0), (.double 0), (.double 0)] (.double 0) := V48
      have N48 := Fr.snoc X48 N8 (Nat.le_trans F46 (Nat.le_of_eq g45.symm))
      refine own_go (fun t k => XS.dup X48.here hx rfl (hb hby at_161) rfl rfl k) ?_
      refine own_go (fun t k => XS.iconst X48.here hx rfl (hb hby at_162) k) ?_
      refine own_go (fun t k => XS.dload X48.here hx rfl (hb hby at_163) rfl  k) ?_
      show own_Run p e below Φ (T48.setTop (mkF m 165 #[.val (.int p1), .val (.int p2), .val (.int p3), .val (.ref r1), .val (.int (1 : Int32)), .val (.int ew), .val (.int (3 : Int32)), .val (.double (FP.l2d (p3.toInt64))), .second, .val (.double (FP.l2d (p3.toInt64 + (1 : Int64)))), .second, .unset, .unset] [(.double (FP.l2d (p3.toInt64 + (1 : Int64)))), (.int (1 : Int32)), (.ref b45), (.ref b45)]))
      refine own_dastore X48 hx hZ e48 V48 (j := (1 : Int32)) ⟨by decide, by decide⟩ 1 rfl (Nat.le_of_ble_eq_true rfl) (g := (mkF m 165 #[.val (.int p1), .val (.int p2), .val (.int p3), .val (.ref r1), .val (.int (1 : Int32)), .val (.int ew), .val (.int (3 : Int32)), .val (.double (FP.l2d (p3.toInt64))), .second, .val (.double (FP.l2d (p3.toInt64 + (1 : Int64)))), .second, .unset, .unset] [(.double (FP.l2d (p3.toInt64 + (1 : Int64)))), (.int (1 : Int32)), (.ref b45), (.ref b45)])) rfl rfl (hb hby at_165) (fun T49 h49 X49 e49 W49 V49 => ?_)
      replace V49 : Arv Z h49 b45 k45 .double (4 : Int32) [(.double (FP.l2d (p3.toInt64 + (1 : Int64)))), (.double (FP.l2d (p3.toInt64 + (1 : Int64)))), (.double 0), (.double 0)] (.double 0) := V49
      have N49 := Fr.snoc X49 N48 (Nat.le_trans F46 (Nat.le_of_eq g45.symm))
      refine own_go (fun t k => XS.dup X49.here hx rfl (hb hby at_166) rfl rfl k) ?_
      refine own_go (fun t k => XS.iconst X49.here hx rfl (hb hby at_167) k) ?_
      refine own_go (fun t k => XS.dload X49.here hx rfl (hb hby at_168) rfl  k) ?_
      refine own_dastore X49 hx hZ e49 V49 (j := (2 : Int32)) ⟨by decide, by decide⟩ 2 rfl (Nat.le_of_ble_eq_true rfl) (g := (mkF m 170 #[.val (.int p1), .val (.int p2), .val (.int p3), .val (.ref r1), .val (.int (1 : Int32)), .val (.int ew), .val (.int (3 : Int32)), .val (.double (FP.l2d (p3.toInt64))), .second, .val (.double (FP.l2d (p3.toInt64 + (1 : Int64)))), .second, .unset, .unset] [(.double (FP.l2d (p3.toInt64 + (1 : Int64)))), (.int (2 : Int32)), (.ref b45), (.ref b45)])) rfl rfl (hb hby at_170) (fun T50 h50 X50 e50 W50 V50 => ?_)
      replace V50 : Arv Z h50 b45 k45 .double (4 : Int32) [(.double (FP.l2d (p3.toInt64 + (1 : Int64)))), (.double (FP.l2d (p3.toInt64 + (1 : Int64)))), (.double (FP.l2d (p3.toInt64 + (1 : Int64)))), (.double 0)] (.double 0) := V50
      have N50 := Fr.snoc X50 N49 (Nat.le_trans F46 (Nat.le_of_eq g45.symm))
      show own_Run p e below Φ (T50.setTop (mkF m 171 #[.val (.int p1), .val (.int p2), .val (.int p3), .val (.ref r1), .val (.int (1 : Int32)), .val (.int ew), .val (.int (3 : Int32)), .val (.double (FP.l2d (p3.toInt64))), .second, .val (.double (FP.l2d (p3.toInt64 + (1 : Int64)))), .second, .unset, .unset] [(.ref b45)]))
      refine own_go (fun t k => XS.dup X50.here hx rfl (hb hby at_171) rfl rfl k) ?_
      refine own_go (fun t k => XS.iconst X50.here hx rfl (hb hby at_172) k) ?_
      refine own_go (fun t k => XS.dload X50.here hx rfl (hb hby at_173) rfl  k) ?_
      refine own_dastore X50 hx hZ e50 V50 (j := (3 : Int32)) ⟨by decide, by decide⟩ 3 rfl (Nat.le_of_ble_eq_true rfl) (g := (mkF m 175 #[.val (.int p1), .val (.int p2), .val (.int p3), .val (.ref r1), .val (.int (1 : Int32)), .val (.int ew), .val (.int (3 : Int32)), .val (.double (FP.l2d (p3.toInt64))), .second, .val (.double (FP.l2d (p3.toInt64 + (1 : Int64)))), .second, .unset, .unset] [(.double (FP.l2d (p3.toInt64 + (1 : Int64)))), (.int (3 : Int32)), (.ref b45), (.ref b45)])) rfl rfl (hb hby at_175) (fun T51 h51 X51 e51 W51 V51 => ?_)
      replace V51 : Arv Z h51 b45 k45 .double (4 : Int32) [(.double (FP.l2d (p3.toInt64 + (1 : Int64)))), (.double (FP.l2d (p3.toInt64 + (1 : Int64)))), (.double (FP.l2d (p3.toInt64 + (1 : Int64)))), (.double (FP.l2d (p3.toInt64 + (1 : Int64))))] (.double 0) := V51
      have N51 := Fr.snoc X51 N50 (Nat.le_trans F46 (Nat.le_of_eq g45.symm))
      refine own_go (fun t k => XS.astore X51.here hx rfl (hb hby at_176) rfl rfl (l' := #[.val (.int p1), .val (.int p2), .val (.int p3), .val (.ref r1), .val (.int (1 : Int32)), .val (.int ew), .val (.int (3 : Int32)), .val (.double (FP.l2d (p3.toInt64))), .second, .val (.double (FP.l2d (p3.toInt64 + (1 : Int64)))), .second, .val (.ref b45), .unset]) rfl k) ?_
      show own_Run p e below Φ (T51.setTop (mkF m 178 #[.val (.int p1), .val (.int p2), .val (.int p3), .val (.ref r1), .val (.int (1 : Int32)), .val (.int ew), .val (.int (3 : Int32)), .val (.double (FP.l2d (p3.toInt64))), .second, .val (.double (FP.l2d (p3.toInt64 + (1 : Int64)))), .second, .val (.ref b45), .unset] []))
      refine own_go (fun t k => XS.aload X51.here hx rfl (hb hby at_178) rfl rfl  k) ?_
      refine own_go (fun t k => XS.iload X51.here hx rfl (hb hby at_180) rfl  k) ?_
      refine own_go (fun t k => XS.dload X51.here hx rfl (hb hby at_182) rfl  k) ?_
      refine own_dastore X51 hx hZ e51 V51 (j := (3 : Int32)) ⟨by decide, by decide⟩ 3 rfl (Nat.le_of_ble_eq_true rfl) (g := (mkF m 184 #[.val (.int p1), .val (.int p2), .val (.int p3), .val (.ref r1), .val (.int (1 : Int32)), .val (.int ew), .val (.int (3 : Int32)), .val (.double (FP.l2d (p3.toInt64))), .second, .val (.double (FP.l2d (p3.toInt64 + (1 : Int64)))), .second, .val (.ref b45), .unset] [(.double (FP.l2d (p3.toInt64))), (.int (3 : Int32)), (.ref b45)])) rfl rfl (hb hby at_184) (fun T52 h52 X52 e52 W52 V52 => ?_)
      replace V52 : Arv Z h52 b45 k45 .double (4 : Int32) [(.double (FP.l2d (p3.toInt64 + (1 : Int64)))), (.double (FP.l2d (p3.toInt64 + (1 : Int64)))), (.double (FP.l2d (p3.toInt64 + (1 : Int64)))), (.double (FP.l2d (p3.toInt64)))] (.double 0) := V52
      have N52 := Fr.snoc X52 N51 (Nat.le_trans F46 (Nat.le_of_eq g45.symm))
      refine own_go (fun t k => XS.iload X52.here hx rfl (hb hby at_185) rfl  k) ?_
      show own_Run p e below Φ (T52.setTop (mkF m 187 #[.val (.int p1), .val (.int p2), .val (.int p3), .val (.ref r1), .val (.int (1 : Int32)), .val (.int ew), .val (.int (3 : Int32)), .val (.double (FP.l2d (p3.toInt64))), .second, .val (.double (FP.l2d (p3.toInt64 + (1 : Int64)))), .second, .val (.ref b45), .unset] [(.int (3 : Int32))]))
      have F53 : n0 ≤ h52.size := (Nat.le_trans (Nat.le_trans (Nat.le_trans (Nat.le_trans (Nat.le_trans (Nat.le_trans F46 E45.1) (Keep.of_wr W48).1) (Keep.of_wr W49).1) (Keep.of_wr W50).1) (Keep.of_wr W51).1) (Keep.of_wr W52).1)
      refine own_callS X52 hx hZ (y := (⟨"com/example/penumbra/penumbra/reasoner/Linear", "variable", "(I)Lcom/example/penumbra/penumbra/reasoner/Linear;"⟩ : MethodName)) (W := 0) (argsL := [(.int (3 : Int32))]) (rest := []) hown (hw _ (List.mem_of_getElem? (i := 0) rfl)) (hw _ (List.mem_of_getElem? (i := 1) rfl)) (hw _ (List.mem_of_getElem? (i := 2) rfl)) (hw _ (List.mem_of_getElem? (i := 3) rfl)) (by decide) (own_bk (rm_fac l Z a0 hw (3 : Int32) h52 n0 F53) hZ (hw _ (List.mem_of_getElem? (i := 3) rfl)) (hw _ (List.mem_of_getElem? (i := 2) rfl)) (by decide) (by decide)) e52 (g := (mkF m 187 #[.val (.int p1), .val (.int p2), .val (.int p3), .val (.ref r1), .val (.int (1 : Int32)), .val (.int ew), .val (.int (3 : Int32)), .val (.double (FP.l2d (p3.toInt64))), .second, .val (.double (FP.l2d (p3.toInt64 + (1 : Int64)))), .second, .val (.ref b45), .unset] [(.int (3 : Int32))])) rfl (by rw [hml]; rfl) (lenOf pd_0 rfl) rfl (by show 2 * 0 + _ ≤ _; exact Nat.le_of_eq rfl) (hb hby at_187) (by decide) (by decide) (fun v54 T54 h54 L54 X54 e54 q54 => ?_)
      obtain ⟨rfl, M54, K54, P54_0, P54_1, P54_2⟩ := q54
      have N54 := Fr.app N52 M54
      obtain ⟨r54, gr54⟩ : ∃ z, z = h52.size := ⟨_, rfl⟩
      rw [← gr54] at P54_0 P54_1 P54_2 ⊢
      have ne_b45_r54 : b45 ≠ r54 := Nat.ne_of_lt (Nat.lt_of_lt_of_le V52.lt (Nat.le_of_eq gr54.symm))
      obtain ⟨a3_54, k3_54, a4_54, k4_54, g3_54, g4_54, FV_54, VV_54, FC_54, VC_54⟩ := P54_2
      refine own_go (fun t k => XS.astore X54.here hx rfl (hb hby at_190) rfl rfl (l' := #[.val (.int p1), .val (.int p2), .val (.int p3), .val (.ref r1), .val (.int (1 : Int32)), .val (.int ew), .val (.int (3 : Int32)), .val (.double (FP.l2d (p3.toInt64))), .second, .val (.double (FP.l2d (p3.toInt64 + (1 : Int64)))), .second, .val (.ref b45), .val (.ref r54)]) rfl k) ?_
      refine own_go (fun t k => XS.iload X54.here hx rfl (hb hby at_192) rfl  k) ?_
      refine own_go (fun t k => XS.ifNo X54.here hx rfl (hb hby at_194) rfl ((if0 _ _).trans (feq (by decide : ¬ ((1 : Int32) = (0 : Int32)))).1) k) ?_
      refine own_go (fun t k => XS.aload X54.here hx rfl (hb hby at_197) rfl rfl  k) ?_
      show own_Run p e below Φ (T54.setTop (mkF m 199 #[.val (.int p1), .val (.int p2), .val (.int p3), .val (.ref r1), .val (.int (1 : Int32)), .val (.int ew), .val (.int (3 : Int32)), .val (.double (FP.l2d (p3.toInt64))), .second, .val (.double (FP.l2d (p3.toInt64 + (1 : Int64)))), .second, .val (.ref b45), .val (.ref r54)] [(.ref r54)]))
      refine own_go (fun t k => XS.aload X54.here hx rfl (hb hby at_199) rfl rfl  k) ?_
      have F55 : Arv Z h54 b45 k45 .double (4 : Int32) [(.double (FP.l2d (p3.toInt64 + (1 : Int64)))), (.double (FP.l2d (p3.toInt64 + (1 : Int64)))), (.double (FP.l2d (p3.toInt64 + (1 : Int64)))), (.double (FP.l2d (p3.toInt64)))] (.double 0) := (V52.keep K54 nin0)
      refine own_callV X54 hx hZ (y := (⟨"com/example/penumbra/penumbra/reasoner/Linear", "valueAt", "([D)D"⟩ : MethodName)) (z := (⟨"com/example/penumbra/penumbra/reasoner/Linear", "valueAt", "([D)D"⟩ : MethodName)) (W := 0) (a := r54) (argsL := [(.ref b45)]) (rest := []) hown (hw _ (List.mem_of_getElem? (i := 48) rfl)) (hw _ (List.mem_of_getElem? (i := 49) rfl)) (notFace_of_selects (args := #[]) (mvT hZ (hw _ (List.mem_of_getElem? (i := 51) rfl)))) (hw _ (List.mem_of_getElem? (i := 51) rfl)) (hw _ (List.mem_of_getElem? (i := 50) rfl)) (by decide) (own_bk (rm_val3 l Z a0 hw r54 b45 a3_54 k3_54 a4_54 k4_54 k45 p3 (FP.l2d (p3.toInt64 + (1 : Int64))) (FP.l2d (p3.toInt64 + (1 : Int64))) (FP.l2d (p3.toInt64 + (1 : Int64))) h54 n0 P54_1 FV_54 FC_54 VV_54 VC_54 F55) hZ (hw _ (List.mem_of_getElem? (i := 52) rfl)) (hw _ (List.mem_of_getElem? (i := 2) rfl)) (by decide) (by decide)) e54 P54_0 (g := (mkF m 201 #[.val (.int p1), .val (.int p2), .val (.int p3), .val (.ref r1), .val (.int (1 : Int32)), .val (.int ew), .val (.int (3 : Int32)), .val (.double (FP.l2d (p3.toInt64))), .second, .val (.double (FP.l2d (p3.toInt64 + (1 : Int64)))), .second, .val (.ref b45), .val (.ref r54)] [(.ref b45), (.ref r54)])) rfl (by rw [hml]; rfl) (lenOf pd_8 rfl) rfl (by show 2 * 0 + _ ≤ _; exact Nat.le_of_eq rfl) (hb hby at_201) (by decide) (by decide) (fun v56 T56 h56 L56 X56 e56 q56 => ?_)
      obtain ⟨rfl, M56, s56⟩ := q56
      replace e56 : T56.heap = h54 := e56.trans s56
      have N56 := Fr.app N54 M56
      refine own_go (fun t k => XS.dload X56.here hx rfl (hb hby at_204) rfl  k) ?_
      refine own_go (fun t k => XS.dcmpS X56.here hx rfl (v := (0 : Int32)) (hb hby at_206) rfl (own_dself _ _) k) ?_
      refine own_go (fun t k => XS.ifNo X56.here hx rfl (hb hby at_207) rfl ((if0 _ _).trans (teq (rfl : (0 : Int32) = (0 : Int32))).2) k) ?_
      show own_Run p e below Φ (T56.setTop (mkF m 210 #[.val (.int p1), .val (.int p2), .val (.int p3), .val (.ref r1), .val (.int (1 : Int32)), .val (.int ew), .val (.int (3 : Int32)), .val (.double (FP.l2d (p3.toInt64))), .second, .val (.double (FP.l2d (p3.toInt64 + (1 : Int64)))), .second, .val (.ref b45), .val (.ref r54)] []))
      refine own_go (fun t k => XS.iconst X56.here hx rfl (hb hby at_210) k) ?_
      refine own_go (fun t k => XS.goto X56.here hx rfl (pc0 := 211) (pc' := 215) rfl (hb hby at_211) (by decide) (by decide) k) ?_
      refine own_go (fun t k => XS.istore X56.here hx rfl (hb hby at_215) rfl (l' := #[.val (.int p1), .val (.int p2), .val (.int p3), .val (.ref r1), .val (.int (1 : Int32)), .val (.int ew), .val (.int (3 : Int32)), .val (.double (FP.l2d (p3.toInt64))), .second, .val (.double (FP.l2d (p3.toInt64 + (1 : Int64)))), .second, .val (.ref b45), .val (.ref r54)]) rfl k) ?_
      refine own_go (fun t k => XS.iload X56.here hx rfl (hb hby at_217) rfl  k) ?_
      subst hΦ
      exact own_retN X56 hx (t := .boolean) Bd.returns (by simp) hlk (hb hby at_219) e56 ⟨rfl, N56⟩ (by decide) (by decide)
  show own_Run p e below Φ (T6.setTop (mkF m 104 #[.val (.int p1), .val (.int p2), .val (.int p3), .val (.ref r1), .val (.int (1 : Int32)), .unset, .unset, .unset, .unset, .unset, .unset, .unset, .unset] []))
  refine own_go (fun t k => XS.iloadN X6.here hx rfl (hb hby at_104) rfl  k) ?_
  show own_Run p e below Φ (T6.setTop (mkF m 105 #[.val (.int p1), .val (.int p2), .val (.int p3), .val (.ref r1), .val (.int (1 : Int32)), .unset, .unset, .unset, .unset, .unset, .unset, .unset, .unset] [(.int p2)]))
  refine own_go (fun t k => XS.iloadN X6.here hx rfl (hb hby at_105) rfl  k) ?_
  by_cases hc106 : p2 = p1
  · refine own_go (fun t k => XS.icmpNo X6.here hx rfl (hb hby at_106) rfl (teq hc106).2 k) ?_
    refine own_go (fun t k => XS.iconst X6.here hx rfl (hb hby at_109) k) ?_
    refine own_go (fun t k => XS.goto X6.here hx rfl (pc0 := 110) (pc' := 114) rfl (hb hby at_110) (by decide) (by decide) k) ?_
    exact J114_7 (0 : Int32) (if_pos hc106.symm)
  · refine own_go (fun t k => XS.icmpYes X6.here hx rfl (pc0 := 106) (pc' := 113) rfl (hb hby at_106) rfl (feq hc106).2 (by decide) (by decide) k) ?_
    refine own_go (fun t k => XS.iconst X6.here hx rfl (hb hby at_113) k) ?_
    exact J114_7 (-1 : Int32) (if_neg (fun q => hc106 q.symm))
set_option maxRecDepth 65536 in
set_option maxHeartbeats 40000000 in
theorem comes_1 {Post : Tables → Env → Array Value → State → Outcome → State → Prop} (hpost : ∀ tb e args s v u, (limb_1_1.after args s (.returned v) u = true ∧ limb_1_2.after args s (.returned v) u = true ∧ True) → FrameEnd s (.returned v) u (Jvm.fieldLocs frame_1_writes args s ++ Jvm.arrayLocs frame_1_arrays args s ++ Jvm.staticLocs frame_1_statics s) 24 128 → Post tb e args s (.returned v) u) :
    ArmFor flags0 classFile x code maxLocals ret World_1 tables_1 room_1 Calls_1 rest_1 Pre_1 Post := by
  intro l hfl _ _ p e ha hc hk s m args below hf hA hF happ hP
  obtain ⟨hcalls, hrest, hpre⟩ := hP
  obtain ⟨-, -, -, hnamed, -, -, -, hat⟩ := (Spec.applies_iff hf).mp happ
  obtain ⟨hg, hn⟩ := and_e (Cond.before_iff.mp (show (Jvm.Cond.and given_1 narrow_1).before args s = true from hpre))
  obtain ⟨hcount, hg⟩ := and_e hg
  obtain ⟨ha0, hg⟩ := and_e hg
  obtain ⟨ha1, hg⟩ := and_e hg
  have ha2 := hg
  obtain ⟨w0, w1, w2, rfl⟩ : ∃ w0 w1 w2 : Value, args = #[w0, w1, w2] := by
    have hs : args.size = 3 := by simpa [Cond.value, given_1] using hcount
    obtain ⟨L⟩ := args
    match L, hs with
    | [w0, w1, w2], _ => exact ⟨w0, w1, w2, rfl⟩
  have hw := fun d (hd : d ∈ tables_1) => atoms_spec (ws := Jvm.Cond.code x code maxLocals ret :: tables_1) hat d (List.mem_cons_of_mem _ hd)
  have hfit : Fit s := fun {y c} hc i hi => by
    obtain ⟨ha, rfl⟩ := Array.getElem?_eq_some_iff.mp hc
    have q := List.all_eq_true.mp ((Array.all_eq_true_iff_forall_mem.mp hF) _ (Array.getElem_mem ha)) i (List.mem_range.mpr hi)
    simpa [Array.getElem?_eq_getElem hi] using q
  obtain ⟨i0, ei0⟩ := is_v ha0
  obtain rfl : w0 = (.int i0) := Option.some.inj ei0
  obtain ⟨i1, ei1⟩ := is_v ha1
  obtain rfl : w1 = (.int i1) := Option.some.inj ei1
  obtain ⟨i2, ei2⟩ := is_v ha2
  obtain rfl : w2 = (.int i2) := Option.some.inj ei2
  obtain ⟨n, o, h1, h2, h3, _, L, rfl, ⟨rfl, N⟩, hq⟩ := rm_law l s _ hw i0 i1 i2  s.heap s.heap.size (Nat.le_refl _) tables_1 p e ha hc hk s m _ below hf ((Spec.applies_iff_loose hf).mp happ).1 ⟨rfl, State.Warmed39.refl s, rfl⟩ trivial
  refine ⟨n, _, h1, h2, h3, hpost _ _ _ _ _ _ ⟨Cond.after_iff.mpr rfl, Cond.after_iff.mpr (eq_i res_at (Term.int_eval (1)) rfl), trivial⟩ ⟨hq.1, hq.2.1, (hq.2.2.sift fun y hy => Or.inr (N y hy)).mono (by decide) (by decide)⟩⟩
theorem main_1_1 : Claimed_1_1 := comes_1 fun _ _ _ _ _ _ h hF => ⟨h.1, hF⟩
theorem main_1_2 : Claimed_1_2 := comes_1 fun _ _ _ _ _ _ h hF => ⟨h.2.1, hF⟩
end Jvm.Pilot.@@N@@
namespace Jvm.Pilot.@@N@@
open Jvm Jvm.ClassFile Sem Op Lib Jvm.Free Jvm.Stand Jvm.Pilot.@@N@@.Jvm.D
/-! MADE BY PROGRAM (witnessworld.py) out of the Statement's table words and the real class files: 9 classes; the members and pool entries that the words name. The judged class is class 1, her method 1. -/
namespace start1
open Jvm.ClassFile
def u (s : String) : CpInfo := .utf8 (stringToUtf16 s)
/-- a pool by its gaps: so many unusable entries, then the entry; so many at the end -/
def gap : Nat → List CpInfo → List CpInfo
  | 0, r => r
  | n + 1, r => .unusable :: gap n r
def poolList (es : List (Nat × CpInfo)) (last : Nat) : List CpInfo := es.foldr (fun e r => gap e.1 (e.2 :: r)) (gap last [])
def pool (es : List (Nat × CpInfo)) (last : Nat) : Array CpInfo := ⟨poolList es last⟩
def fileOf (pool : Array CpInfo) (this : Nat) (attrs : Array Attribute := #[]) (ms : Array MethodInfo := #[]) (fl : Nat := 33) (sup : Nat := 0) (ifs : Array Nat := #[]) (fds : Array FieldInfo := #[]) : ClassFile where
  minorVersion := 0
  majorVersion := 65
  constantPool := pool
  accessFlags := fl
  thisClass := this
  superClass := sup
  interfaces := ifs
  fields := fds
  methods := ms
  attributes := attrs
def plain (name : String) (sup : Option ClassId) : Class where
  name := name
  kind := .ordinary
  loader := none
  accessFlags := 33
  super := sup
  interfaces := #[]
  cf := none
  fields := #[]
  methods := #[]
  instanceTypes := #[]
  staticTypes := #[]
  resolved := #[]
  callSites := []
  init := .initialized
  statics := none
  mirror := none

def pool0 : Array CpInfo := pool [(5, u "<init>"), (0, u "()V"), (1, .class_ 10), (1, u "java/lang/Object")] 113

def k0c0 : Code := { maxStack := 0, maxLocals := 1, code := object_method_1_code, exceptionTable := #[], attributes := #[] }
def k0m0 : Method := { name := "<init>", desc := "()V", sig := { parameters := [], returnType := none }, accessFlags := 1, code := some k0c0 }
/-- java/lang/Object -/
def k0 : Class := { plain "java/lang/Object" none with
  accessFlags := 33
  interfaces := #[]
  cf := some (fileOf pool0 8 #[] #[{ accessFlags := 1, nameIndex := 5, descriptorIndex := 6, attributes := #[] }] 33 0 #[] #[])
  fields := #[]
  methods := #[k0m0]
  instanceTypes := #[]
  staticTypes := #[]
  resolved := Array.replicate 124 none
  statics := none }

def pool1 : Array CpInfo := pool [(2, .class_ 4), (1, u "java/lang/Object"), (0, u "<init>"), (0, u "()V"), (0, .methodref 8 9), (0, .class_ 10), (0, .nameAndType 11 12), (0, u "com/example/penumbra/penumbra/reasoner/Linear"), (0, u "variable"), (0, u "(I)Lcom/example/penumbra/penumbra/reasoner/Linear;"), (0, .methodref 8 14), (0, .nameAndType 15 16), (0, u "constant"), (0, u "()D"), (0, .methodref 8 18), (0, .nameAndType 19 20), (0, u "size"), (0, u "()I"), (0, .methodref 8 22), (0, .nameAndType 23 24), (0, u "variableAt"), (0, u "(I)I"), (0, .methodref 8 26), (0, .nameAndType 27 28), (0, u "coefficientAt"), (0, u "(I)D"), (0, .methodref 8 30), (0, .nameAndType 31 24), (0, u "termOf"), (0, .methodref 8 33), (0, .nameAndType 34 35), (0, u "valueAt"), (0, u "([D)D"), (0, .class_ 37), (0, u "com/example/penumbra/penumbra/reasoner/LinearVariablePinLaw"), (2, u "law"), (0, u "(III)Z")] 5

def k1m0 : Method := { name := "<init>", desc := "()V", sig := { parameters := [], returnType := none }, accessFlags := 2, code := none }
def k1c1 : Code := { maxStack := 5, maxLocals := 13, code := code, exceptionTable := #[], attributes := #[] }
def k1m1 : Method := { name := "law", desc := "(III)Z", sig := { parameters := [.int, .int, .int], returnType := some .boolean }, accessFlags := 9, code := some k1c1 }
/-- com/example/penumbra/penumbra/reasoner/LinearVariablePinLaw -/
def k1 : Class := { plain "com/example/penumbra/penumbra/reasoner/LinearVariablePinLaw" (some 0) with
  accessFlags := 49
  interfaces := #[]
  cf := some (fileOf pool1 36 #[] #[{ accessFlags := 2, nameIndex := 5, descriptorIndex := 6, attributes := #[] }, { accessFlags := 9, nameIndex := 40, descriptorIndex := 41, attributes := #[] }] 49 2 #[] #[])
  fields := #[]
  methods := #[k1m0, k1m1]
  instanceTypes := #[]
  staticTypes := #[]
  resolved := Array.replicate 47 none
  statics := none }

def pool2 : Array CpInfo := pool [(1, .methodref 2 3), (0, .class_ 4), (0, .nameAndType 5 6), (0, u "java/lang/Object"), (0, u "<init>"), (0, u "()V"), (0, .fieldref 8 9), (0, .class_ 10), (0, .nameAndType 11 12), (0, u "com/example/penumbra/penumbra/reasoner/Linear"), (0, u "constant"), (0, u "D"), (0, .fieldref 8 14), (0, .nameAndType 15 16), (0, u "variables"), (0, u "[I"), (0, .fieldref 8 18), (0, .nameAndType 19 20), (0, u "coefficients"), (0, u "[D"), (0, .methodref 8 22), (0, .nameAndType 5 23), (0, u "(D[I[D)V"), (40, .methodref 8 65), (0, .nameAndType 66 67), (0, u "indexOf"), (0, u "(I[II)I"), (2, u "size"), (0, u "()I"), (11, u "variable"), (0, u "(I)Lcom/example/penumbra/penumbra/reasoner/Linear;"), (8, u "()D"), (0, u "valueAt"), (0, u "([D)D"), (0, u "variableAt"), (0, u "(I)I"), (0, u "coefficientAt"), (0, u "(I)D"), (0, u "termOf")] 3

def k2c0 : Code := { maxStack := 3, maxLocals := 5, code := prog_104_method_1_code, exceptionTable := #[], attributes := #[] }
def k2m0 : Method := { name := "<init>", desc := "(D[I[D)V", sig := { parameters := [.double, (.array .int), (.array .double)], returnType := none }, accessFlags := 2, code := some k2c0 }
def k2c1 : Code := { maxStack := 10, maxLocals := 1, code := prog_104_method_3_code, exceptionTable := #[], attributes := #[] }
def k2m1 : Method := { name := "variable", desc := "(I)Lcom/example/penumbra/penumbra/reasoner/Linear;", sig := { parameters := [.int], returnType := some (.object "com/example/penumbra/penumbra/reasoner/Linear") }, accessFlags := 8, code := some k2c1 }
def k2c2 : Code := { maxStack := 2, maxLocals := 1, code := prog_104_method_9_code, exceptionTable := #[], attributes := #[] }
def k2m2 : Method := { name := "constant", desc := "()D", sig := { parameters := [], returnType := some .double }, accessFlags := 0, code := some k2c2 }
def k2c3 : Code := { maxStack := 7, maxLocals := 5, code := prog_104_method_10_code, exceptionTable := #[], attributes := #[] }
def k2m3 : Method := { name := "valueAt", desc := "([D)D", sig := { parameters := [(.array .double)], returnType := some .double }, accessFlags := 0, code := some k2c3 }
def k2c4 : Code := { maxStack := 1, maxLocals := 1, code := prog_104_method_11_code, exceptionTable := #[], attributes := #[] }
def k2m4 : Method := { name := "size", desc := "()I", sig := { parameters := [], returnType := some .int }, accessFlags := 0, code := some k2c4 }
def k2c5 : Code := { maxStack := 2, maxLocals := 2, code := prog_104_method_12_code, exceptionTable := #[], attributes := #[] }
def k2m5 : Method := { name := "variableAt", desc := "(I)I", sig := { parameters := [.int], returnType := some .int }, accessFlags := 0, code := some k2c5 }
def k2c6 : Code := { maxStack := 2, maxLocals := 2, code := prog_104_method_13_code, exceptionTable := #[], attributes := #[] }
def k2m6 : Method := { name := "coefficientAt", desc := "(I)D", sig := { parameters := [.int], returnType := some .double }, accessFlags := 0, code := some k2c6 }
def k2c7 : Code := { maxStack := 3, maxLocals := 2, code := prog_104_method_14_code, exceptionTable := #[], attributes := #[] }
def k2m7 : Method := { name := "termOf", desc := "(I)I", sig := { parameters := [.int], returnType := some .int }, accessFlags := 0, code := some k2c7 }
def k2c8 : Code := { maxStack := 2, maxLocals := 4, code := prog_104_method_17_code, exceptionTable := #[], attributes := #[] }
def k2m8 : Method := { name := "indexOf", desc := "(I[II)I", sig := { parameters := [.int, (.array .int), .int], returnType := some .int }, accessFlags := 10, code := some k2c8 }
/-- com/example/penumbra/penumbra/reasoner/Linear -/
def k2 : Class := { plain "com/example/penumbra/penumbra/reasoner/Linear" (some 0) with
  accessFlags := 48
  interfaces := #[]
  cf := some (fileOf pool2 8 #[] #[{ accessFlags := 2, nameIndex := 5, descriptorIndex := 23, attributes := #[] }, { accessFlags := 8, nameIndex := 83, descriptorIndex := 84, attributes := #[] }, { accessFlags := 0, nameIndex := 11, descriptorIndex := 93, attributes := #[] }, { accessFlags := 0, nameIndex := 94, descriptorIndex := 95, attributes := #[] }, { accessFlags := 0, nameIndex := 70, descriptorIndex := 71, attributes := #[] }, { accessFlags := 0, nameIndex := 96, descriptorIndex := 97, attributes := #[] }, { accessFlags := 0, nameIndex := 98, descriptorIndex := 99, attributes := #[] }, { accessFlags := 0, nameIndex := 100, descriptorIndex := 97, attributes := #[] }, { accessFlags := 10, nameIndex := 66, descriptorIndex := 67, attributes := #[] }] 48 2 #[] #[{ accessFlags := 18, nameIndex := 11, descriptorIndex := 12, attributes := #[] }, { accessFlags := 18, nameIndex := 15, descriptorIndex := 16, attributes := #[] }, { accessFlags := 18, nameIndex := 19, descriptorIndex := 20, attributes := #[] }])
  fields := #[{ name := "constant", type := .double, accessFlags := 18, slot := 0, constantValue := 0 }, { name := "variables", type := (.array .int), accessFlags := 18, slot := 1, constantValue := 0 }, { name := "coefficients", type := (.array .double), accessFlags := 18, slot := 2, constantValue := 0 }]
  methods := #[k2m0, k2m1, k2m2, k2m3, k2m4, k2m5, k2m6, k2m7, k2m8]
  instanceTypes := #[.double, (.array .int), (.array .double)]
  staticTypes := #[]
  resolved := Array.replicate 104 none
  statics := none }

def pool3 : Array CpInfo := pool [(1, u "java/lang/Cloneable"), (0, .class_ 1), (0, u "java/lang/Object"), (0, .class_ 3)] 3

/-- java/lang/Cloneable -/
def k3 : Class := { plain "java/lang/Cloneable" (some 0) with
  accessFlags := 1537
  interfaces := #[]
  cf := some (fileOf pool3 2 #[] #[] 1537 4 #[] #[])
  fields := #[]
  methods := #[]
  instanceTypes := #[]
  staticTypes := #[]
  resolved := Array.replicate 8 none
  statics := none }

def pool4 : Array CpInfo := pool [(1, u "java/io/Serializable"), (0, .class_ 1), (0, u "java/lang/Object"), (0, .class_ 3)] 3

/-- java/io/Serializable -/
def k4 : Class := { plain "java/io/Serializable" (some 0) with
  accessFlags := 1537
  interfaces := #[]
  cf := some (fileOf pool4 2 #[] #[] 1537 4 #[] #[])
  fields := #[]
  methods := #[]
  instanceTypes := #[]
  staticTypes := #[]
  resolved := Array.replicate 8 none
  statics := none }

/-- the primitive byte -/
def k5 : Class := { plain "byte" none with kind := .primitive 'B', accessFlags := 0x411 }
/-- [B -/
def k6 : Class := { plain "[B" (some 0) with kind := .array 5 .byte, interfaces := #[3, 4], accessFlags := 1041 }

/-- the primitive int -/
def k7 : Class := { plain "int" none with kind := .primitive 'I', accessFlags := 0x411 }
/-- [I -/
def k8 : Class := { plain "[I" (some 0) with kind := .array 7 .int, interfaces := #[3, 4], accessFlags := 1041 }
/-- the primitive double -/
def k9 : Class := { plain "double" none with kind := .primitive 'D', accessFlags := 0x411 }
/-- [D -/
def k10 : Class := { plain "[D" (some 0) with kind := .array 9 .double, interfaces := #[3, 4], accessFlags := 1041 }

def heap : Heap := #[]
def classes : Array Class := #[k0, k1, k2, k3, k4, k5, k6, k7, k8, k9, k10]
def interned : List (Array UInt16 × Addr) := []
def slotsUsed : Nat := 0
def theMethod : MethodId := ⟨1, 1⟩
def args0 : Array Value := #[.int 5, .int 7, .int 9]
def aboutOver (below : List Frame) : State where
  vm := { classes := classes, interned := interned.toArray }
  heap := heap
  slotsUsed := slotsUsed
  threads := #[{ frames := .invoking theMethod args0 :: below }]
def below0 : List Frame := [.native { method := ⟨0, 0⟩, args := #[] }]
def about1 : State := aboutOver below0
def p0 : Program := .bare "" "" ""
def e0 : Env := launch0.env 0 0 0
theorem w_frames : about1.frames = Frame.invoking theMethod args0 :: below0 := rfl
set_option maxRecDepth 65536 in
theorem w_args : argsFit about1.vm theMethod args0 = true := by decide +kernel
set_option maxRecDepth 65536 in
theorem w_heap : heapFits about1 = true := by decide +kernel
set_option maxRecDepth 65536 in
theorem w_runnable : about1.curStatus? = some .runnable := by decide +kernel
set_option maxRecDepth 65536 in
theorem w_alone : about1.alone = true := by decide +kernel
set_option maxRecDepth 65536 in
theorem w_named : about1.methodNamed? x = some theMethod := by decide +kernel
set_option maxRecDepth 65536 in
theorem w_hears : about1.hears theMethod below0 = true := by decide +kernel
set_option maxRecDepth 65536 in
theorem w_ripe : about1.ripe theMethod args0 below0 = true := by decide +kernel
theorem w_running : about1.status = .running := rfl
set_option maxRecDepth 65536 in
theorem w_room : about1.hasRoom e0.platform room_1 = true :=
  launch0.hasRoom_least _ room_1 (by decide +kernel) (by decide +kernel) (by decide +kernel) (by decide +kernel) (by decide +kernel) (by decide +kernel)
theorem allAtoms_all (ts : List Jvm.Cond) (a : Array Jvm.Value) (st : Jvm.State) : (allAtoms ts).before a st = ts.all (fun c => c.before a st) := by
  induction ts with
  | nil => rfl
  | cons c t ih =>
    show (Jvm.Cond.and c (allAtoms t)).before a st = _
    rw [Jvm.Cond.before_and, ih, List.all_cons]
def words1 : List Jvm.Cond := Jvm.Cond.code x code maxLocals ret :: tables_1
/-- a 'code' word, met by the world's own term for the bytes: nothing is compared byte by byte -/
theorem code_word {y : MethodName} {bytes : ByteArray} {mx : Nat} {rt : Option FieldType} {a : Array Value} {s : State} {m : MethodId} {meth : Method} {c : Code} (h1 : s.methodNamed? y = some m) (h2 : s.vm.method? m = some meth) (h3 : meth.code = some c) (h4 : c.code = bytes)
    (h5 : (c.maxLocals == mx && c.exceptionTable.isEmpty && decide (c.maxStack ≤ mostOperands) && decide (meth.sig.returnType = rt) && !meth.locks && decide (parseMethodDescriptor y.desc = some meth.sig)) = true) : (Jvm.Cond.code y bytes mx rt).before a s = true := by
  simp only [Bool.and_eq_true, beq_iff_eq, Bool.not_eq_true', decide_eq_true_eq] at h5
  obtain ⟨⟨⟨⟨⟨g1, g2⟩, g3⟩, g4⟩, g5⟩, g6⟩ := h5
  simp [Cond.before, Cond.holds, Cond.value, h1, h2, h3, h4, g1, g2, g3, g4, g5, g6]
def isCode : Jvm.Cond → Bool
  | .code _ _ _ _ => true
  | _ => false
theorem all_split {L : List Jvm.Cond} {P : Jvm.Cond → Bool} (h1 : L.all (fun c => isCode c || P c) = true) (h2 : ∀ c ∈ L.filter isCode, P c = true) : L.all P = true := by
  refine List.all_eq_true.mpr fun c hc => ?_
  have h := List.all_eq_true.mp h1 c hc
  rcases Bool.eq_false_or_eq_true (isCode c) with hi | hi
  · exact h2 c (List.mem_filter.mpr ⟨hc, hi⟩)
  · simpa [hi] using h
set_option maxRecDepth 65536 in
theorem w_c0 : (Jvm.Cond.code x code maxLocals ret).before args0 about1 = true := code_word (m := ⟨1, 1⟩) (meth := k1m1) (c := k1c1) (by decide +kernel) rfl rfl rfl (by decide +kernel)
set_option maxRecDepth 65536 in
theorem w_c1 : (Jvm.Cond.code ({ cls := "com/example/penumbra/penumbra/reasoner/Linear", name := "variable", desc := "(I)Lcom/example/penumbra/penumbra/reasoner/Linear;" } : Jvm.MethodName) prog_104_method_3_code (1 : Nat) (Option.some (Jvm.ClassFile.FieldType.object "com/example/penumbra/penumbra/reasoner/Linear"))).before args0 about1 = true := code_word (m := ⟨2, 1⟩) (meth := k2m1) (c := k2c1) (by decide +kernel) rfl rfl rfl (by decide +kernel)
set_option maxRecDepth 65536 in
theorem w_c2 : (Jvm.Cond.code ({ cls := "com/example/penumbra/penumbra/reasoner/Linear", name := "<init>", desc := "(D[I[D)V" } : Jvm.MethodName) prog_104_method_1_code (5 : Nat) (Option.none : Option Jvm.ClassFile.FieldType)).before args0 about1 = true := code_word (m := ⟨2, 0⟩) (meth := k2m0) (c := k2c0) (by decide +kernel) rfl rfl rfl (by decide +kernel)
set_option maxRecDepth 65536 in
theorem w_c3 : (Jvm.Cond.code ({ cls := "java/lang/Object", name := "<init>", desc := "()V" } : Jvm.MethodName) object_method_1_code (1 : Nat) (Option.none : Option Jvm.ClassFile.FieldType)).before args0 about1 = true := code_word (m := ⟨0, 0⟩) (meth := k0m0) (c := k0c0) (by decide +kernel) rfl rfl rfl (by decide +kernel)
set_option maxRecDepth 65536 in
theorem w_c4 : (Jvm.Cond.code ({ cls := "com/example/penumbra/penumbra/reasoner/Linear", name := "constant", desc := "()D" } : Jvm.MethodName) prog_104_method_9_code (1 : Nat) (Option.some Jvm.ClassFile.FieldType.double)).before args0 about1 = true := code_word (m := ⟨2, 2⟩) (meth := k2m2) (c := k2c2) (by decide +kernel) rfl rfl rfl (by decide +kernel)
set_option maxRecDepth 65536 in
theorem w_c5 : (Jvm.Cond.code ({ cls := "com/example/penumbra/penumbra/reasoner/Linear", name := "size", desc := "()I" } : Jvm.MethodName) prog_104_method_11_code (1 : Nat) (Option.some Jvm.ClassFile.FieldType.int)).before args0 about1 = true := code_word (m := ⟨2, 4⟩) (meth := k2m4) (c := k2c4) (by decide +kernel) rfl rfl rfl (by decide +kernel)
set_option maxRecDepth 65536 in
theorem w_c6 : (Jvm.Cond.code ({ cls := "com/example/penumbra/penumbra/reasoner/Linear", name := "variableAt", desc := "(I)I" } : Jvm.MethodName) prog_104_method_12_code (2 : Nat) (Option.some Jvm.ClassFile.FieldType.int)).before args0 about1 = true := code_word (m := ⟨2, 5⟩) (meth := k2m5) (c := k2c5) (by decide +kernel) rfl rfl rfl (by decide +kernel)
set_option maxRecDepth 65536 in
theorem w_c7 : (Jvm.Cond.code ({ cls := "com/example/penumbra/penumbra/reasoner/Linear", name := "coefficientAt", desc := "(I)D" } : Jvm.MethodName) prog_104_method_13_code (2 : Nat) (Option.some Jvm.ClassFile.FieldType.double)).before args0 about1 = true := code_word (m := ⟨2, 6⟩) (meth := k2m6) (c := k2c6) (by decide +kernel) rfl rfl rfl (by decide +kernel)
set_option maxRecDepth 65536 in
theorem w_c8 : (Jvm.Cond.code ({ cls := "com/example/penumbra/penumbra/reasoner/Linear", name := "termOf", desc := "(I)I" } : Jvm.MethodName) prog_104_method_14_code (2 : Nat) (Option.some Jvm.ClassFile.FieldType.int)).before args0 about1 = true := code_word (m := ⟨2, 7⟩) (meth := k2m7) (c := k2c7) (by decide +kernel) rfl rfl rfl (by decide +kernel)
set_option maxRecDepth 65536 in
theorem w_c9 : (Jvm.Cond.code ({ cls := "com/example/penumbra/penumbra/reasoner/Linear", name := "indexOf", desc := "(I[II)I" } : Jvm.MethodName) prog_104_method_17_code (4 : Nat) (Option.some Jvm.ClassFile.FieldType.int)).before args0 about1 = true := code_word (m := ⟨2, 8⟩) (meth := k2m8) (c := k2c8) (by decide +kernel) rfl rfl rfl (by decide +kernel)
set_option maxRecDepth 65536 in
theorem w_c10 : (Jvm.Cond.code ({ cls := "com/example/penumbra/penumbra/reasoner/Linear", name := "valueAt", desc := "([D)D" } : Jvm.MethodName) prog_104_method_10_code (5 : Nat) (Option.some Jvm.ClassFile.FieldType.double)).before args0 about1 = true := code_word (m := ⟨2, 3⟩) (meth := k2m3) (c := k2c3) (by decide +kernel) rfl rfl rfl (by decide +kernel)
def codes1 : List Jvm.Cond := [Jvm.Cond.code x code maxLocals ret, Jvm.Cond.code ({ cls := "com/example/penumbra/penumbra/reasoner/Linear", name := "variable", desc := "(I)Lcom/example/penumbra/penumbra/reasoner/Linear;" } : Jvm.MethodName) prog_104_method_3_code (1 : Nat) (Option.some (Jvm.ClassFile.FieldType.object "com/example/penumbra/penumbra/reasoner/Linear")), Jvm.Cond.code ({ cls := "com/example/penumbra/penumbra/reasoner/Linear", name := "<init>", desc := "(D[I[D)V" } : Jvm.MethodName) prog_104_method_1_code (5 : Nat) (Option.none : Option Jvm.ClassFile.FieldType), Jvm.Cond.code ({ cls := "java/lang/Object", name := "<init>", desc := "()V" } : Jvm.MethodName) object_method_1_code (1 : Nat) (Option.none : Option Jvm.ClassFile.FieldType), Jvm.Cond.code ({ cls := "com/example/penumbra/penumbra/reasoner/Linear", name := "constant", desc := "()D" } : Jvm.MethodName) prog_104_method_9_code (1 : Nat) (Option.some Jvm.ClassFile.FieldType.double), Jvm.Cond.code ({ cls := "com/example/penumbra/penumbra/reasoner/Linear", name := "size", desc := "()I" } : Jvm.MethodName) prog_104_method_11_code (1 : Nat) (Option.some Jvm.ClassFile.FieldType.int), Jvm.Cond.code ({ cls := "com/example/penumbra/penumbra/reasoner/Linear", name := "variableAt", desc := "(I)I" } : Jvm.MethodName) prog_104_method_12_code (2 : Nat) (Option.some Jvm.ClassFile.FieldType.int), Jvm.Cond.code ({ cls := "com/example/penumbra/penumbra/reasoner/Linear", name := "coefficientAt", desc := "(I)D" } : Jvm.MethodName) prog_104_method_13_code (2 : Nat) (Option.some Jvm.ClassFile.FieldType.double), Jvm.Cond.code ({ cls := "com/example/penumbra/penumbra/reasoner/Linear", name := "termOf", desc := "(I)I" } : Jvm.MethodName) prog_104_method_14_code (2 : Nat) (Option.some Jvm.ClassFile.FieldType.int), Jvm.Cond.code ({ cls := "com/example/penumbra/penumbra/reasoner/Linear", name := "indexOf", desc := "(I[II)I" } : Jvm.MethodName) prog_104_method_17_code (4 : Nat) (Option.some Jvm.ClassFile.FieldType.int), Jvm.Cond.code ({ cls := "com/example/penumbra/penumbra/reasoner/Linear", name := "valueAt", desc := "([D)D" } : Jvm.MethodName) prog_104_method_10_code (5 : Nat) (Option.some Jvm.ClassFile.FieldType.double)]
set_option maxRecDepth 65536 in
theorem codes_eq : words1.filter isCode = codes1 := rfl
theorem w_codes : ∀ c ∈ words1.filter isCode, c.before args0 about1 = true := by
  rw [codes_eq]
  intro c hc
  simp only [codes1, List.mem_cons, List.not_mem_nil, or_false] at hc
  rcases hc with rfl | rfl | rfl | rfl | rfl | rfl | rfl | rfl | rfl | rfl | rfl
  · exact w_c0
  · exact w_c1
  · exact w_c2
  · exact w_c3
  · exact w_c4
  · exact w_c5
  · exact w_c6
  · exact w_c7
  · exact w_c8
  · exact w_c9
  · exact w_c10
set_option maxRecDepth 65536 in
theorem w_t1 : (words1.take 24).all (fun c => isCode c || c.before args0 about1) = true := by decide +kernel
set_option maxRecDepth 65536 in
theorem w_t2 : ((words1.drop 24).take 24).all (fun c => isCode c || c.before args0 about1) = true := by decide +kernel
set_option maxRecDepth 65536 in
theorem w_t3 : ((words1.drop 24).drop 24).all (fun c => isCode c || c.before args0 about1) = true := by decide +kernel
theorem w_tables : (allAtoms (Jvm.Cond.code x code maxLocals ret :: tables_1)).before args0 about1 = true := by
  rw [allAtoms_all]
  show words1.all (fun c => c.before args0 about1) = true
  refine all_split ?_ w_codes
  rw [← List.take_append_drop 24 words1, List.all_append, w_t1, ← List.take_append_drop 24 (words1.drop 24), List.all_append, w_t2, w_t3]
  rfl
set_option maxRecDepth 65536 in
theorem w_case : (Jvm.Cond.and given_1 narrow_1).before args0 about1 = true := by decide +kernel
theorem w_applies : (headSpec (Jvm.Cond.code x code maxLocals ret :: tables_1) room_1).applies x e0.platform about1 = true :=
  (Spec.applies_iff w_frames).mpr ⟨w_running, w_runnable, w_alone, w_named, w_hears, w_ripe, w_room, w_tables⟩
theorem atStart : AtStart classFile x code maxLocals ret World_1 tables_1 room_1 Calls_1 rest_1 Pre_1 launch0 p0 e0 about1 theMethod args0 below0 :=
  ⟨lists_1, trivial, launch0.admits_env _ _ _, launch0.least_env, fairChoices_fair.cas, fairChoices_fair.clock, w_frames, w_args, w_heap, w_applies, trivial, trivial, w_case⟩
end start1
theorem witness_1 : WitnessClaimed_1 := ⟨start1.p0, start1.e0, start1.about1, start1.theMethod, start1.args0, start1.below0, start1.atStart⟩
end Jvm.Pilot.@@N@@
