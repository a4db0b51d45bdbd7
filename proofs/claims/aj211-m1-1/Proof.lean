import JvmDerived
import JvmDerived.Pilot.@@N@@Statement
import JvmDerived.Pilot.@@N@@Code
set_option linter.unusedVariables false
set_option linter.unusedSimpArgs false
set_option maxHeartbeats 40000000
namespace Jvm.RoadKit
open Sem ClassFile Op Lib Jvm.Stand Jvm.Free Jvm.LawKit
section New
variable {p : Program} {l : Launch} {e : Env} {R : Room} {s : State} {m : MethodId} {args : Array Value} {below : List Frame} {meth : Method} {c : Code} {T : State} {locs : List Loc} {cells slots : Nat}
theorem retI (X : Stand p l e R s m args below meth c T locs cells slots) (hx : p.tables.exec = Jvm.exec) {pc : Nat} {Ls : Array Slot} {z : Int32} {rest : List Value} (hret : meth.sig.returnType = some .int) (hd : decode c.code pc = .ok (.ireturn, 1)) {fs : List Frame}
    (hl : ∀ (f : JFrame) (acts : List Action), f.method = m → f.locked = none → f.entered = [] → (doReturn e (T.setTop f) acts (some (.int z))).1 = T.setFrames fs) : Steps p.tables e below (T.setTop (mkF m pc Ls (.int z :: rest))) (T.setFrames fs) := by
  have hm' : T.vm.method? m = some meth := X.method'
  have hn : narrow .int (.int z) = .int z := rfl
  show Steps p.tables e below (T.setTop { method := m, pc := pc, locals := Ls, stack := _ :: rest, locked := none }) _
  jvm_step X.here [X.here.top, hx, hd, hm', hret, hn]
  first | (intro acts; rw [hl _ acts rfl rfl rfl]) | rw [hl _ _ rfl rfl rfl]
  exact Steps.refl _
end New
end Jvm.RoadKit
namespace Jvm.Pilot.@@N@@
open Jvm Jvm.ClassFile Sem Op Lib Jvm.Free Jvm.Stand Jvm.LawKit Jvm.RoadKit Bundle Jvm.Pilot.@@N@@.Jvm.D
/-! a run that ends well: what this text is made of -/
def own_Run (p : Program) (e : Env) (below : List Frame) (Φ : State → Prop) (S : State) : Prop := ∃ t, Steps p.tables e below S t ∧ Φ t
def own_Fin (s : State) (below : List Frame) (C D : Nat) (Q : Option Value → Heap → List Loc → Prop) (t : State) : Prop :=
  t.status = .running ∧ ∃ v L, Ended t below (.returned v) ∧ Q v t.heap L ∧ FrameEnd s (.returned v) t L C D
def own_Met (l : Launch) (Z : State) (y : MethodName) (bytes : ByteArray) (maxL : Nat) (ret : Option FieldType) (rm : Room) (as : Array Value) (h : Heap) (Q : Option Value → Heap → List Loc → Prop) : Prop :=
  ∀ ws : List Jvm.Cond, MetFree l y (head1 (Jvm.Cond.code y bytes maxL ret :: ws) rm) (fun a U => a = as ∧ Z.Warmed39 U.vm ∧ U.heap = h) (fun _ _ _ _ _ => True) (fun _ U o U' => ∃ v L, o = .returned v ∧ Q v U'.heap L ∧ FrameEnd U o U' L rm.cells rm.slots)
section OwnRun
variable {p : Program} {l : Launch} {e : Env} {R : Room} {s : State} {m : MethodId} {args : Array Value} {below : List Frame} {meth : Method} {c : Code} {T : State} {locs : List Loc} {cells slots : Nat} {Φ : State → Prop} {S S' : State} {Z : State} {a0 : Array Value} {h : Heap}
theorem own_go (st : ∀ t, Steps p.tables e below S' t → Steps p.tables e below S t) (r : own_Run p e below Φ S') : own_Run p e below Φ S := r.elim fun t q => ⟨t, st t q.1, q.2⟩
theorem own_via (st : Steps p.tables e below S S') (r : own_Run p e below Φ S') : own_Run p e below Φ S := r.elim fun t q => ⟨t, st.trans q.1, q.2⟩
theorem own_cast {g g' : JFrame} (q : g = g') (r : own_Run p e below Φ (T.setTop g')) : own_Run p e below Φ (T.setTop g) := q ▸ r
theorem own_body {C D : Nat} {Q : Option Value → Heap → List Loc → Prop} (r : own_Run p e below (own_Fin s below C D Q) S) :
    ∃ s₂ o, Steps p.tables e below S s₂ ∧ s₂.status = .running ∧ Ended s₂ below o ∧ ∃ v L, o = .returned v ∧ Q v s₂.heap L ∧ FrameEnd s o s₂ L C D := by
  obtain ⟨t, q1, q2, v, L, q3, q4, q5⟩ := r
  exact ⟨t, _, q1, q2, q3, v, L, rfl, q4, q5⟩
variable {C D : Nat} {Q : Option Value → Heap → List Loc → Prop}
theorem own_retI (X : Stand p l e R s m args below meth c T locs cells slots) (hx : p.tables.exec = Jvm.exec) (hret : meth.sig.returnType = some .int) (hlk : meth.locks = false) {pc : Nat} {Ls : Array Slot} {z : Int32} {rest : List Value} (hd : decode c.code pc = .ok (.ireturn, 1)) (eT : T.heap = h) (hq : Q (some (.int z)) h locs) (hc : cells ≤ C) (hs : slots ≤ D) :
    own_Run p e below (own_Fin s below C D Q) (T.setTop (mkF m pc Ls (.int z :: rest))) := by
  obtain ⟨fs, hr, hrun, hended, hW, hsame⟩ := X.leave (v := some (.int z)) (fun q => by rw [hret] at q; cases q) hlk
  exact ⟨_, retI X hx hret hd hr, hrun, _, _, hended, by show Q _ T.heap _; rw [eT]; exact hq, ⟨_, rfl⟩, hW, hsame.mono hc hs⟩
theorem own_retN (X : Stand p l e R s m args below meth c T locs cells slots) (hx : p.tables.exec = Jvm.exec) {t : FieldType} (hret : meth.sig.returnType = some t) (ht : t = .boolean ∨ t = .byte ∨ t = .char ∨ t = .short) (hlk : meth.locks = false) {pc : Nat} {Ls : Array Slot} {z : Int32} {rest : List Value} (hd : decode c.code pc = .ok (.ireturn, 1)) (eT : T.heap = h) (hq : Q (some (.int (nar t z))) h locs) (hc : cells ≤ C) (hs : slots ≤ D) :
    own_Run p e below (own_Fin s below C D Q) (T.setTop (mkF m pc Ls (.int z :: rest))) := by
  obtain ⟨fs, hr, hrun, hended, hW, hsame⟩ := X.leave (v := some (.int (nar t z))) (fun q => by rw [hret] at q; cases q) hlk
  exact ⟨_, retN X hx hret ht hd hr, hrun, _, _, hended, by show Q _ T.heap _; rw [eT]; exact hq, ⟨_, rfl⟩, hW, hsame.mono hc hs⟩
theorem own_retV (X : Stand p l e R s m args below meth c T locs cells slots) (hx : p.tables.exec = Jvm.exec) (hret : meth.sig.returnType = none) (hlk : meth.locks = false) {pc : Nat} {Ls : Array Slot} (hd : decode c.code pc = .ok (.return_, 1)) (eT : T.heap = h) (hq : Q none h locs) (hc : cells ≤ C) (hs : slots ≤ D) :
    own_Run p e below (own_Fin s below C D Q) (T.setTop (mkF m pc Ls [])) := by
  obtain ⟨fs, hr, hrun, hended, hW, hsame⟩ := X.leave (v := none) (fun _ => rfl) hlk
  exact ⟨_, X.returnOut hx hret hd hr, hrun, _, _, hended, by show Q _ T.heap _; rw [eT]; exact hq, ⟨_, rfl⟩, hW, hsame.mono hc hs⟩
theorem own_retO (X : Stand p l e R s m args below meth c T locs cells slots) (hx : p.tables.exec = Jvm.exec) {t : FieldType} {i : Instr} {w : Value} (hret : meth.sig.returnType = some t) (hn : narrow t w = w)
    (hi : (i = .ireturn ∧ (t = .int ∨ t = .boolean ∨ t = .byte ∨ t = .char ∨ t = .short) ∧ ∃ z, w = .int z) ∨ (i = .lreturn ∧ t = .long ∧ ∃ z, w = .long z) ∨ (i = .dreturn ∧ t = .double ∧ ∃ z, w = .double z) ∨ (i = .freturn ∧ t = .float ∧ ∃ z, w = .float z) ∨ (i = .areturn ∧ t.isReference = true ∧ w.isRef = true))
    (hlk : meth.locks = false) {pc : Nat} {Ls : Array Slot} {rest : List Value} (hd : decode c.code pc = .ok (i, 1)) (eT : T.heap = h) (hq : Q (some w) h locs) (hc : cells ≤ C) (hs : slots ≤ D) :
    own_Run p e below (own_Fin s below C D Q) (T.setTop (mkF m pc Ls (w :: rest))) := by
  obtain ⟨fs, hr, hrun, hended, hW, hsame⟩ := X.leave (v := some w) (fun q => by rw [hret] at q; cases q) hlk
  exact ⟨_, retOut X hx hret hn hi hd hr, hrun, _, _, hended, by show Q _ T.heap _; rw [eT]; exact hq, ⟨_, rfl⟩, hW, hsame.mono hc hs⟩
/-- who pays a call -/
def own_Bk (l : Launch) (R : Room) (p : Program) (e : Env) (below : List Frame) (s : State) (args : Array Value) (y : MethodName) (W : Nat) (as : Array Value) (h : Heap) (cc ss : Nat) (Q : Option Value → Heap → List Loc → Prop) : Prop :=
  Back l R p e below s args y 3 W (fun A a => a = as ∧ A.U.heap = h ∧ A.cells + cc ≤ R.cells ∧ A.slots + ss ≤ R.slots) (fun A _ v B => ∃ L, Q v B.U.heap L ∧ B.locs = A.locs ++ L ∧ B.cells = A.cells + cc ∧ B.slots = A.slots + ss)
theorem own_bk {y : MethodName} {bytes : ByteArray} {maxL : Nat} {ret : Option FieldType} {rm : Room} {W : Nat} {as : Array Value} (hM : own_Met l Z y bytes maxL ret rm as h Q) (hZ : Z.Warmed39 s.vm) (wc : (Jvm.Cond.code y bytes maxL ret).before a0 Z = true) (wz : (Jvm.Cond.initialized y.cls).before a0 Z = true) (hf : rm.frames + 1 ≤ R.frames) (hl : W + (maxL + 11) + rm.locals ≤ R.locals) :
    own_Bk l R p e below s args y W as h rm.cells rm.slots Q := backOf (W := W) (hM []) hZ wc wz hf hl
/-- a static method by its contract -/
theorem own_callS (X : Stand p l e R s m args below meth c T locs cells slots) (hx : p.tables.exec = Jvm.exec) (hZ : Z.Warmed39 s.vm) {own : String} {index : Nat} {y : MethodName} {bytes : ByteArray} {maxL : Nat} {ret : Option FieldType} {cc ss : Nat}
    (hown : s.vm.findClass own = some m.cls) (w1 : (Jvm.Cond.methodLink own index y).before a0 Z = true) (w2 : (Jvm.Cond.static y).before a0 Z = true) (w3 : (Jvm.Cond.initialized y.cls).before a0 Z = true) (w4 : (Jvm.Cond.code y bytes maxL ret).before a0 Z = true)
    (hy : y.cls ≠ "java/lang/invoke/MethodHandle" ∧ y.cls ≠ "java/lang/invoke/VarHandle") {W : Nat} {argsL rest : List Value} (hK : own_Bk l R p e below s args y W argsL.toArray h cc ss Q) (eT : T.heap = h)
    {g : JFrame} (hg : g.method = m) (hsize : g.locals.size = c.maxLocals) (hlen : ∀ sig, parseMethodDescriptor y.desc = some sig → argsL.length = sig.parameters.length)
    (hstack : g.stack = argsL.reverse ++ rest) (hW : 2 * g.monitorRoom + (rest.map fun v => v.category).sum ≤ W) (hdg : decode c.code g.pc = .ok (.invokestatic index, 3))
    (hcl : cells + cc ≤ R.cells) (hsl : slots + ss ≤ R.slots)
    (k : ∀ v T' h' L, Stand p l e R s m args below meth c T' (locs ++ L) (cells + cc) (slots + ss) → T'.heap = h' → Q v h' L → own_Run p e below Φ (T'.setTop { g with pc := g.pc + 3, stack := v.toList ++ rest })) : own_Run p e below Φ (T.setTop g) := by
  obtain ⟨v, _, ⟨T', L', k', n'⟩, -, X', ⟨Lc, hQ, l1, y1, z1⟩, st⟩ := Jvm.LawKit.callS X hx (y := y) hown (mvT hZ w1) (mvT hZ w2) (mvT hZ w3) (mvT hZ w4) hy hK hg hsize hlen hstack hW hdg (fun _ _ => ⟨rfl, eT, hcl, hsl⟩)
  dsimp only [Pt.U, Pt.locs, Pt.cells, Pt.slots] at X' l1 y1 z1 st hQ
  subst l1 y1 z1
  exact own_go st (k v T' _ Lc X' rfl hQ)
/-- a constructor by its contract -/
theorem own_callI (X : Stand p l e R s m args below meth c T locs cells slots) (hx : p.tables.exec = Jvm.exec) (hZ : Z.Warmed39 s.vm) {own : String} {index : Nat} {y : MethodName} {bytes : ByteArray} {maxL : Nat} {cc ss : Nat} (hy1 : y.name = "<init>")
    (hown : s.vm.findClass own = some m.cls) (w1 : (Jvm.Cond.methodLink own index y).before a0 Z = true) (w2 : (Jvm.Cond.instanceMethod y).before a0 Z = true) (w4 : (Jvm.Cond.code y bytes maxL none).before a0 Z = true)
    (hy : y.cls ≠ "java/lang/invoke/MethodHandle" ∧ y.cls ≠ "java/lang/invoke/VarHandle") {W : Nat} {a : Addr} {argsL rest : List Value} (hK : own_Bk l R p e below s args y W (.ref a :: argsL).toArray h cc ss Q) (eT : T.heap = h)
    {g : JFrame} (hg : g.method = m) (hsize : g.locals.size = c.maxLocals) (hlen : ∀ sig, parseMethodDescriptor y.desc = some sig → argsL.length = sig.parameters.length)
    (hstack : g.stack = argsL.reverse ++ .ref a :: rest) (hW : 2 * g.monitorRoom + (rest.map fun v => v.category).sum ≤ W) (hdg : decode c.code g.pc = .ok (.invokespecial index, 3))
    (hcl : cells + cc ≤ R.cells) (hsl : slots + ss ≤ R.slots)
    (k : ∀ v T' h' L, Stand p l e R s m args below meth c T' (locs ++ L) (cells + cc) (slots + ss) → T'.heap = h' → Q v h' L → own_Run p e below Φ (T'.setTop { g with pc := g.pc + 3, stack := v.toList ++ rest })) : own_Run p e below Φ (T.setTop g) := by
  obtain ⟨v, _, ⟨T', L', k', n'⟩, -, X', ⟨Lc, hQ, l1, y1, z1⟩, st⟩ := X.specialBack hx (y := y) hy1 hown (mvT hZ w1) (mvT hZ w2) (mvT hZ w4) hy hK hg hsize (Steps.refl _) (a := a) hlen hstack hW hdg (fun _ _ => ⟨rfl, eT, hcl, hsl⟩)
  dsimp only [Pt.U, Pt.locs, Pt.cells, Pt.slots] at X' l1 y1 z1 st hQ
  subst l1 y1 z1
  exact own_via st (k v T' _ Lc X' rfl hQ)
/-- an instance method by the contract of the body that the receiver's class selects -/
theorem own_callV (X : Stand p l e R s m args below meth c T locs cells slots) (hx : p.tables.exec = Jvm.exec) (hZ : Z.Warmed39 s.vm) {own C : String} {index : Nat} {y z : MethodName} {cc ss : Nat}
    (hown : s.vm.findClass own = some m.cls) (w1 : (Jvm.Cond.methodLink own index y).before a0 Z = true) (w2 : (Jvm.Cond.declares y).before a0 Z = true) (hnf : NotFace s y) (w3 : (Jvm.Cond.selects C y z).before a0 Z = true) (w4 : (Jvm.Cond.instanceMethod z).before a0 Z = true)
    (hy : y.cls ≠ "java/lang/invoke/MethodHandle" ∧ y.cls ≠ "java/lang/invoke/VarHandle") {W : Nat} {a : Addr} {argsL rest : List Value} (hK : own_Bk l R p e below s args z W (.ref a :: argsL).toArray h cc ss Q) (eT : T.heap = h) (E : Exa Z h a C)
    {g : JFrame} (hg : g.method = m) (hsize : g.locals.size = c.maxLocals) (hlen : ∀ sig, parseMethodDescriptor y.desc = some sig → argsL.length = sig.parameters.length)
    (hstack : g.stack = argsL.reverse ++ .ref a :: rest) (hW : 2 * g.monitorRoom + (rest.map fun v => v.category).sum ≤ W) (hdg : decode c.code g.pc = .ok (.invokevirtual index, 3))
    (hcl : cells + cc ≤ R.cells) (hsl : slots + ss ≤ R.slots)
    (k : ∀ v T' h' L, Stand p l e R s m args below meth c T' (locs ++ L) (cells + cc) (slots + ss) → T'.heap = h' → Q v h' L → own_Run p e below Φ (T'.setTop { g with pc := g.pc + 3, stack := v.toList ++ rest })) : own_Run p e below Φ (T.setTop g) := by
  obtain ⟨cq, kq, qa, qb, qc⟩ := isOf hZ eT E
  obtain ⟨v, _, ⟨T', L', k', n'⟩, -, X', ⟨Lc, hQ, l1, y1, z1⟩, st⟩ := X.virtualBack hx (y := y) (z := z) hown (mvT hZ w1) (mvT hZ w2) hnf (mvT hZ w3) (mvT hZ w4) hy hK qa qc hg hsize (Steps.refl _) hlen hstack hW hdg (fun _ _ => ⟨rfl, eT, hcl, hsl⟩)
  dsimp only [Pt.U, Pt.locs, Pt.cells, Pt.slots] at X' l1 y1 z1 st hQ
  subst l1 y1 z1
  exact own_via st (k v T' _ Lc X' rfl hQ)
/-- an instance method that a superclass declares -/
theorem own_callU (X : Stand p l e R s m args below meth c T locs cells slots) (hx : p.tables.exec = Jvm.exec) (hZ : Z.Warmed39 s.vm) {own C owner : String} {index : Nat} {y z : MethodName} {cc ss : Nat}
    (hown : s.vm.findClass own = some m.cls) (w1 : (Jvm.Cond.methodLink own index y).before a0 Z = true) (w0 : (Jvm.Cond.sameMethod y.cls owner y.name y.desc).before a0 Z = true) (w2 : (Jvm.Cond.declares ⟨owner, y.name, y.desc⟩).before a0 Z = true) (w3 : (Jvm.Cond.selects C y z).before a0 Z = true) (w4 : (Jvm.Cond.instanceMethod z).before a0 Z = true)
    (hy : owner ≠ "java/lang/invoke/MethodHandle" ∧ owner ≠ "java/lang/invoke/VarHandle") {W : Nat} {a : Addr} {argsL rest : List Value} (hK : own_Bk l R p e below s args z W (.ref a :: argsL).toArray h cc ss Q) (eT : T.heap = h) (E : Exa Z h a C)
    {g : JFrame} (hg : g.method = m) (hsize : g.locals.size = c.maxLocals) (hlen : ∀ sig, parseMethodDescriptor y.desc = some sig → argsL.length = sig.parameters.length)
    (hstack : g.stack = argsL.reverse ++ .ref a :: rest) (hW : 2 * g.monitorRoom + (rest.map fun v => v.category).sum ≤ W) (hdg : decode c.code g.pc = .ok (.invokevirtual index, 3))
    (hcl : cells + cc ≤ R.cells) (hsl : slots + ss ≤ R.slots)
    (k : ∀ v T' h' L, Stand p l e R s m args below meth c T' (locs ++ L) (cells + cc) (slots + ss) → T'.heap = h' → Q v h' L → own_Run p e below Φ (T'.setTop { g with pc := g.pc + 3, stack := v.toList ++ rest })) : own_Run p e below Φ (T.setTop g) := by
  obtain ⟨cq, kq, qa, qb, qc⟩ := isOf hZ eT E
  obtain ⟨v, _, ⟨T', L', k', n'⟩, -, X', ⟨Lc, hQ, l1, y1, z1⟩, st⟩ := X.virtualBackUp hx (x := y) (y := z) hown (mvT hZ w1) (mvT hZ w0) (mvT hZ w2) hy (mvT hZ w3) (mvT hZ w4) hK qa qc hg hsize (Steps.refl _) hlen hstack hW hdg (fun _ _ => ⟨rfl, eT, hcl, hsl⟩)
  dsimp only [Pt.U, Pt.locs, Pt.cells, Pt.slots] at X' l1 y1 z1 st hQ
  subst l1 y1 z1
  exact own_via st (k v T' _ Lc X' rfl hQ)
/-- a private method by its contract -/
theorem own_callP (X : Stand p l e R s m args below meth c T locs cells slots) (hx : p.tables.exec = Jvm.exec) (hZ : Z.Warmed39 s.vm) {own C : String} {index : Nat} {y : MethodName} {bytes : ByteArray} {maxL : Nat} {ret : Option FieldType} {cc ss : Nat}
    (hown : s.vm.findClass own = some m.cls) (w1 : (Jvm.Cond.methodLink own index y).before a0 Z = true) (w2 : (Jvm.Cond.instanceMethod y).before a0 Z = true) (w3 : (Jvm.Cond.selects y.cls y y).before a0 Z = true) (w4 : (Jvm.Cond.privateMethod y).before a0 Z = true) (w6 : (Jvm.Cond.code y bytes maxL ret).before a0 Z = true)
    (hy : y.cls ≠ "java/lang/invoke/MethodHandle" ∧ y.cls ≠ "java/lang/invoke/VarHandle") {W : Nat} {a : Addr} {argsL rest : List Value} (hK : own_Bk l R p e below s args y W (.ref a :: argsL).toArray h cc ss Q) (eT : T.heap = h) (E : Exa Z h a C)
    {g : JFrame} (hg : g.method = m) (hsize : g.locals.size = c.maxLocals) (hlen : ∀ sig, parseMethodDescriptor y.desc = some sig → argsL.length = sig.parameters.length)
    (hstack : g.stack = argsL.reverse ++ .ref a :: rest) (hW : 2 * g.monitorRoom + (rest.map fun v => v.category).sum ≤ W) (hdg : decode c.code g.pc = .ok (.invokevirtual index, 3))
    (hcl : cells + cc ≤ R.cells) (hsl : slots + ss ≤ R.slots)
    (k : ∀ v T' h' L, Stand p l e R s m args below meth c T' (locs ++ L) (cells + cc) (slots + ss) → T'.heap = h' → Q v h' L → own_Run p e below Φ (T'.setTop { g with pc := g.pc + 3, stack := v.toList ++ rest })) : own_Run p e below Φ (T.setTop g) := by
  obtain ⟨cq, q1, q2⟩ := E.cell
  obtain ⟨v, _, ⟨T', L', k', n'⟩, -, X', ⟨Lc, hQ, l1, y1, z1⟩, st⟩ := X.privateBack hx (y := y) hown (mvT hZ w1) (mvT hZ w2) (mvT hZ w3) (Cond.privateMethod_at (mvP hZ w4 (args := #[]))) (mvT hZ w6) hy hK hg hsize (Steps.refl _) (a := a) (by rw [eT]; exact q1) q2 hlen hstack hW hdg (fun _ _ => ⟨rfl, eT, hcl, hsl⟩)
  dsimp only [Pt.U, Pt.locs, Pt.cells, Pt.slots] at X' l1 y1 z1 st hQ
  subst l1 y1 z1
  exact own_via st (k v T' _ Lc X' rfl hQ)
/-- arrays: reading -/
theorem own_iaload (X : Stand p l e R s m args below meth c T locs cells slots) (hx : p.tables.exec = Jvm.exec) (hZ : Z.Warmed39 s.vm) (eT : T.heap = h) {a : Addr} {k : ClassId} {z j : Int32} {vs : List Value} {dv v : Value} (V : Arv Z h a k .int z vs dv) (hj : ¬ j < 0 ∧ j < z) (hv : vs.getD j.toNatClampNeg dv = v)
    {g : JFrame} (hg : g.method = m) {rest : List Value} (hs : g.stack = .int j :: .ref a :: rest) (hd : decode c.code g.pc = .ok (.iaload, 1)) (r : own_Run p e below Φ (T.setTop { g with pc := g.pc + 1, stack := v :: rest })) : own_Run p e below Φ (T.setTop g) := by
  obtain ⟨cl, A, -, S, -, H, -⟩ := V
  exact own_go (fun t q => X.iaload hx (j := j) (v := v) (by rw [eT]; exact A.1) (State.isArrayOf_alike hZ.alike A.2.1) A.2.2 (inb_of S hj) (Has.at H (inb_of S hj) hv) hg hs hd t q) r
theorem own_laload (X : Stand p l e R s m args below meth c T locs cells slots) (hx : p.tables.exec = Jvm.exec) (hZ : Z.Warmed39 s.vm) (eT : T.heap = h) {a : Addr} {k : ClassId} {z j : Int32} {vs : List Value} {dv v : Value} (V : Arv Z h a k .long z vs dv) (hj : ¬ j < 0 ∧ j < z) (hv : vs.getD j.toNatClampNeg dv = v)
    {g : JFrame} (hg : g.method = m) {rest : List Value} (hs : g.stack = .int j :: .ref a :: rest) (hd : decode c.code g.pc = .ok (.laload, 1)) (r : own_Run p e below Φ (T.setTop { g with pc := g.pc + 1, stack := v :: rest })) : own_Run p e below Φ (T.setTop g) := by
  obtain ⟨cl, A, -, S, -, H, -⟩ := V
  exact own_go (fun t q => X.laload hx (j := j) (v := v) (by rw [eT]; exact A.1) (State.isArrayOf_alike hZ.alike A.2.1) A.2.2 (inb_of S hj) (Has.at H (inb_of S hj) hv) hg hs hd t q) r
theorem own_caload (X : Stand p l e R s m args below meth c T locs cells slots) (hx : p.tables.exec = Jvm.exec) (hZ : Z.Warmed39 s.vm) (eT : T.heap = h) {a : Addr} {k : ClassId} {z j : Int32} {vs : List Value} {dv v : Value} (V : Arv Z h a k .char z vs dv) (hj : ¬ j < 0 ∧ j < z) (hv : vs.getD j.toNatClampNeg dv = v)
    {g : JFrame} (hg : g.method = m) {rest : List Value} (hs : g.stack = .int j :: .ref a :: rest) (hd : decode c.code g.pc = .ok (.caload, 1)) (r : own_Run p e below Φ (T.setTop { g with pc := g.pc + 1, stack := v :: rest })) : own_Run p e below Φ (T.setTop g) := by
  obtain ⟨cl, A, -, S, -, H, -⟩ := V
  exact own_go (fun t q => X.caload hx (j := j) (v := v) (by rw [eT]; exact A.1) (State.isArrayOf_alike hZ.alike A.2.1) A.2.2 (inb_of S hj) (Has.at H (inb_of S hj) hv) hg hs hd t q) r
theorem own_baload (X : Stand p l e R s m args below meth c T locs cells slots) (hx : p.tables.exec = Jvm.exec) (hZ : Z.Warmed39 s.vm) (eT : T.heap = h) {a : Addr} {k : ClassId} {z j : Int32} {vs : List Value} {dv v : Value} (V : Arv Z h a k .byte z vs dv) (hj : ¬ j < 0 ∧ j < z) (hv : vs.getD j.toNatClampNeg dv = v)
    {g : JFrame} (hg : g.method = m) {rest : List Value} (hs : g.stack = .int j :: .ref a :: rest) (hd : decode c.code g.pc = .ok (.baload, 1)) (r : own_Run p e below Φ (T.setTop { g with pc := g.pc + 1, stack := v :: rest })) : own_Run p e below Φ (T.setTop g) := by
  obtain ⟨cl, A, -, S, -, H, -⟩ := V
  exact own_go (fun t q => X.baloadBytes hx (j := j) (v := v) (by rw [eT]; exact A.1) (State.isArrayOf_alike hZ.alike A.2.1) A.2.2 (inb_of S hj) (Has.at H (inb_of S hj) hv) hg hs hd t q) r
theorem own_arrlen (X : Stand p l e R s m args below meth c T locs cells slots) (hx : p.tables.exec = Jvm.exec) (hZ : Z.Warmed39 s.vm) (eT : T.heap = h) {a : Addr} {k : ClassId} {ty : FieldType} {z : Int32} {vs : List Value} {dv : Value} (V : Arv Z h a k ty z vs dv)
    {g : JFrame} (hg : g.method = m) {rest : List Value} (hs : g.stack = .ref a :: rest) (hd : decode c.code g.pc = .ok (.arraylength, 1)) (r : own_Run p e below Φ (T.setTop { g with pc := g.pc + 1, stack := .int z :: rest })) : own_Run p e below Φ (T.setTop g) := by
  obtain ⟨cl, A, -, S, M, -, -⟩ := V
  refine own_go (fun t q => X.arraylength hx (by rw [eT]; exact A.1) (State.isArrayOf_alike hZ.alike A.2.1) hg hs hd t q) ?_
  rw [len_of S M]; exact r
/-- arrays: writing -/
theorem own_iastore (X : Stand p l e R s m args below meth c T locs cells slots) (hx : p.tables.exec = Jvm.exec) (hZ : Z.Warmed39 s.vm) (eT : T.heap = h) {a : Addr} {k : ClassId} {z j x : Int32} {vs : List Value} {dv : Value} (V : Arv Z h a k .int z vs dv) (hj : ¬ j < 0 ∧ j < z) (i : Nat) (hi : j.toNatClampNeg = i) (hl : i < vs.length)
    {g : JFrame} (hg : g.method = m) {rest : List Value} (hs : g.stack = .int x :: .int j :: .ref a :: rest) (hd : decode c.code g.pc = .ok (.iastore, 1))
    (r : ∀ T' h', Stand p l e R s m args below meth c T' (locs ++ [⟨a, j.toNatClampNeg⟩]) cells slots → T'.heap = h' → Wr h h' a j.toNatClampNeg (.int x) → Arv Z h' a k .int z (vs.set i (.int x)) dv → own_Run p e below Φ (T'.setTop { g with pc := g.pc + 1, stack := rest })) : own_Run p e below Φ (T.setTop g) := by
  obtain ⟨cl, A, q, S, N, H, G⟩ := V
  obtain ⟨T', h', X', e', W, st⟩ := stI X hx hZ eT A (j := j) (inb_of S hj) hg hs hd
  exact own_go st (r T' h' X' e' W (Arv.set A q S N H G rfl W i hi hl))
theorem own_lastore (X : Stand p l e R s m args below meth c T locs cells slots) (hx : p.tables.exec = Jvm.exec) (hZ : Z.Warmed39 s.vm) (eT : T.heap = h) {a : Addr} {k : ClassId} {z j : Int32} {x : Int64} {vs : List Value} {dv : Value} (V : Arv Z h a k .long z vs dv) (hj : ¬ j < 0 ∧ j < z) (i : Nat) (hi : j.toNatClampNeg = i) (hl : i < vs.length)
    {g : JFrame} (hg : g.method = m) {rest : List Value} (hs : g.stack = .long x :: .int j :: .ref a :: rest) (hd : decode c.code g.pc = .ok (.lastore, 1))
    (r : ∀ T' h', Stand p l e R s m args below meth c T' (locs ++ [⟨a, j.toNatClampNeg⟩]) cells slots → T'.heap = h' → Wr h h' a j.toNatClampNeg (.long x) → Arv Z h' a k .long z (vs.set i (.long x)) dv → own_Run p e below Φ (T'.setTop { g with pc := g.pc + 1, stack := rest })) : own_Run p e below Φ (T.setTop g) := by
  obtain ⟨cl, A, q, S, N, H, G⟩ := V
  obtain ⟨T', h', X', e', W, st⟩ := stJ X hx hZ eT A (j := j) (inb_of S hj) hg hs hd
  exact own_go st (r T' h' X' e' W (Arv.set A q S N H G rfl W i hi hl))
theorem own_bastore (X : Stand p l e R s m args below meth c T locs cells slots) (hx : p.tables.exec = Jvm.exec) (hZ : Z.Warmed39 s.vm) (eT : T.heap = h) {a : Addr} {k : ClassId} {z j x : Int32} {vs : List Value} {dv : Value} (V : Arv Z h a k .byte z vs dv) (hj : ¬ j < 0 ∧ j < z) (i : Nat) (hi : j.toNatClampNeg = i) (hl : i < vs.length)
    {g : JFrame} (hg : g.method = m) {rest : List Value} (hs : g.stack = .int x :: .int j :: .ref a :: rest) (hd : decode c.code g.pc = .ok (.bastore, 1))
    (r : ∀ T' h', Stand p l e R s m args below meth c T' (locs ++ [⟨a, j.toNatClampNeg⟩]) cells slots → T'.heap = h' → Wr h h' a j.toNatClampNeg (.int x.toInt8.toInt32) → Arv Z h' a k .byte z (vs.set i (.int x.toInt8.toInt32)) dv → own_Run p e below Φ (T'.setTop { g with pc := g.pc + 1, stack := rest })) : own_Run p e below Φ (T.setTop g) := by
  obtain ⟨cl, A, q, S, N, H, G⟩ := V
  obtain ⟨T', h', X', e', W, st⟩ := stB X hx hZ eT A (j := j) (inb_of S hj) hg hs hd
  exact own_go st (r T' h' X' e' W (Arv.set A q S N H G (fits_nar_byte _) W i hi hl))
theorem own_castore (X : Stand p l e R s m args below meth c T locs cells slots) (hx : p.tables.exec = Jvm.exec) (hZ : Z.Warmed39 s.vm) (eT : T.heap = h) {a : Addr} {k : ClassId} {z j x : Int32} {vs : List Value} {dv : Value} (V : Arv Z h a k .char z vs dv) (hj : ¬ j < 0 ∧ j < z) (i : Nat) (hi : j.toNatClampNeg = i) (hl : i < vs.length)
    {g : JFrame} (hg : g.method = m) {rest : List Value} (hs : g.stack = .int x :: .int j :: .ref a :: rest) (hd : decode c.code g.pc = .ok (.castore, 1))
    (r : ∀ T' h', Stand p l e R s m args below meth c T' (locs ++ [⟨a, j.toNatClampNeg⟩]) cells slots → T'.heap = h' → Wr h h' a j.toNatClampNeg (.int (nar .char x)) → Arv Z h' a k .char z (vs.set i (.int (nar .char x))) dv → own_Run p e below Φ (T'.setTop { g with pc := g.pc + 1, stack := rest })) : own_Run p e below Φ (T.setTop g) := by
  obtain ⟨cl, A, q, S, N, H, G⟩ := V
  obtain ⟨T', h', X', e', W, st⟩ := stC X hx hZ eT A (j := j) (inb_of S hj) hg hs hd
  exact own_go st (r T' h' X' e' W (Arv.set A q S N H G (fits_nar_char _) W i hi hl))
theorem own_newP (X : Stand p l e R s m args below meth c T locs cells slots) (hx : p.tables.exec = Jvm.exec) (hZ : Z.Warmed39 s.vm) {aty : ArrayType} (w : (Jvm.Cond.arrayClass (newarray.typeOf aty)).before a0 Z = true) (eT : T.heap = h) {g : JFrame} (hg : g.method = m) (hd : decode c.code g.pc = .ok (.newarray aty, 2)) {n : Int32} {rest : List Value} (hs : g.stack = .int n :: rest)
    (hn : ¬ n < 0) (cap : Nat) (hcap : n.toNatClampNeg ≤ cap) (hb : cap * 8 ≤ 536870912) (hc : cells + 1 ≤ R.cells) (hl : slots + cap ≤ R.slots) (N : Nat)
    (r : ∀ T' h' cA a, Stand p l e R s m args below meth c T' locs (cells + 1) (slots + cap) → T'.heap = h' → Ext h h' → a = h.size → Arv Z h' a cA (newarray.typeOf aty) n (List.replicate N (defaultValue (newarray.typeOf aty))) (defaultValue (newarray.typeOf aty)) → own_Run p e below Φ (T'.setTop { g with pc := g.pc + 2, stack := .ref a :: rest })) : own_Run p e below Φ (T.setTop g) := by
  obtain ⟨T', h', cA, X', e', E, A, st⟩ := newP X hx hZ w eT hg hd hs hn hcap hb hc hl
  have V := Arv.new A hn
  have q : ∀ i, (List.replicate N (defaultValue (newarray.typeOf aty))).getD i (defaultValue (newarray.typeOf aty)) = ([] : List Value).getD i (defaultValue (newarray.typeOf aty)) := pad_rep [] (defaultValue (newarray.typeOf aty)) N
  exact own_go st (r T' h' cA h.size X' e' E rfl (V.pad q))
theorem own_le {a b c d : Nat} (h1 : a ≤ b) (h2 : b + c ≤ d) : a + c ≤ d := Nat.le_trans (Nat.add_le_add_right h1 c) h2
/-- the case's words on statics -/
theorem own_eqI {args : Array Value} {first s : State} {o : Option Outcome} {idx : List Nat} {t : Term} {k : Int32} (h : (Jvm.Cond.eq t (.int k)).value args first o s idx = some true) : t.eval args first o idx s = some (.int k) := by
  cases ht : t.eval args first o idx s with
  | none => simp [Cond.value, ht] at h
  | some x => cases x <;> simp [Cond.value, Term.eval, ht] at h ⊢; exact h
theorem own_fldI {args : Array Value} {t : Term} {x : Addr} {C n d : String} {k : Int32} (ht : t.eval args Z none [] Z = some (.ref x)) (h : (Jvm.Cond.eq (.field t C n d) (.int k)).value args Z none Z [] = some true) : Fld Z Z.heap x C n d (.int k) := Fld.start ((fld_at ht).symm.trans (own_eqI h))
end OwnRun
def own_tab (n : Nat) : Int32 := if n < 33 then (0 : Int32) else if n < 34 then (32 : Int32) else if n < 35 then (0 : Int32) else if n < 36 then (16 : Int32) else if n < 37 then (32 : Int32) else if n < 38 then (0 : Int32) else if n < 45 then (32 : Int32) else if n < 46 then (8 : Int32) else if n < 47 then (8 : Int32) else if n < 48 then (16 : Int32) else if n < 58 then (14 : Int32) else if n < 59 then (16 : Int32) else if n < 60 then (32 : Int32) else if n < 61 then (0 : Int32) else if n < 62 then (32 : Int32) else if n < 63 then (0 : Int32) else if n < 64 then (16 : Int32) else if n < 65 then (16 : Int32) else if n < 71 then (13 : Int32) else if n < 91 then (9 : Int32) else if n < 92 then (16 : Int32) else if n < 93 then (0 : Int32) else if n < 94 then (16 : Int32) else if n < 95 then (0 : Int32) else if n < 96 then (8 : Int32) else if n < 97 then (0 : Int32) else if n < 103 then (13 : Int32) else if n < 123 then (9 : Int32) else if n < 124 then (0 : Int32) else if n < 125 then (0 : Int32) else if n < 126 then (0 : Int32) else if n < 127 then (8 : Int32) else if n < 128 then (0 : Int32) else 0
def own_in (c l u : Int32) : Int32 := if c < l then (0 : Int32) else if u < c then (0 : Int32) else (1 : Int32)
def own_al (c : Int32) : Int32 := if ¬ own_in c (65 : Int32) (90 : Int32) = (0 : Int32) then (1 : Int32) else if ¬ own_in c (97 : Int32) (122 : Int32) = (0 : Int32) then (1 : Int32) else (0 : Int32)
def own_hx (c : Int32) : Int32 := if ¬ own_in c (48 : Int32) (57 : Int32) = (0 : Int32) then (1 : Int32) else if ¬ own_in c (65 : Int32) (70 : Int32) = (0 : Int32) then (1 : Int32) else if ¬ own_in c (97 : Int32) (102 : Int32) = (0 : Int32) then (1 : Int32) else (0 : Int32)
def own_un (c al dg : Int32) : Int32 := if ¬ al = (0 : Int32) then (1 : Int32) else if ¬ dg = (0 : Int32) then (1 : Int32) else if c = (45 : Int32) then (1 : Int32) else if c = (46 : Int32) then (1 : Int32) else if c = (95 : Int32) then (1 : Int32) else if c = (126 : Int32) then (1 : Int32) else (0 : Int32)
def own_ge (c : Int32) : Int32 := if c = (58 : Int32) then (1 : Int32) else if c = (47 : Int32) then (1 : Int32) else if c = (63 : Int32) then (1 : Int32) else if c = (35 : Int32) then (1 : Int32) else if c = (91 : Int32) then (1 : Int32) else if c = (93 : Int32) then (1 : Int32) else if c = (64 : Int32) then (1 : Int32) else (0 : Int32)
def own_su (c : Int32) : Int32 := if c = (33 : Int32) then (1 : Int32) else if c = (36 : Int32) then (1 : Int32) else if c = (38 : Int32) then (1 : Int32) else if c = (39 : Int32) then (1 : Int32) else if c = (40 : Int32) then (1 : Int32) else if c = (41 : Int32) then (1 : Int32) else if c = (42 : Int32) then (1 : Int32) else if c = (43 : Int32) then (1 : Int32) else if c = (44 : Int32) then (1 : Int32) else if c = (59 : Int32) then (1 : Int32) else if c = (61 : Int32) then (1 : Int32) else (0 : Int32)
def own_e (al dg hx un ge su k : Int32) : Int32 := if ¬ al = (0 : Int32) ∧ ¬ (k &&& (1 : Int32)) = (0 : Int32) then (1 : Int32) else if ¬ dg = (0 : Int32) ∧ ¬ (k &&& (2 : Int32)) = (0 : Int32) then (1 : Int32) else if ¬ hx = (0 : Int32) ∧ ¬ (k &&& (4 : Int32)) = (0 : Int32) then (1 : Int32) else if ¬ un = (0 : Int32) ∧ ¬ (k &&& (8 : Int32)) = (0 : Int32) then (1 : Int32) else if ¬ ge = (0 : Int32) ∧ ¬ (k &&& (16 : Int32)) = (0 : Int32) then (1 : Int32) else if ¬ su = (0 : Int32) ∧ ¬ (k &&& (32 : Int32)) = (0 : Int32) then (1 : Int32) else (0 : Int32)
def own_isin (c k : Int32) : Int32 := if c < (128 : Int32) then (if (own_tab c.toNatClampNeg &&& k) = (0 : Int32) then (0 : Int32) else (1 : Int32)) else (0 : Int32)
def own_all (c k : Int32) : Int32 := own_e (own_al c) (own_in c (48 : Int32) (57 : Int32)) (own_hx c) (own_un c (own_al c) (own_in c (48 : Int32) (57 : Int32))) (own_ge c) (own_su c) k
def own_bits (c : Int32) : Int32 := own_al c + 2 * own_in c (48 : Int32) (57 : Int32) + 4 * own_hx c + 8 * own_un c (own_al c) (own_in c (48 : Int32) (57 : Int32)) + 16 * own_ge c + 32 * own_su c
theorem own_fin {x : Int32} {lo : Int} {k : Nat} (h1 : lo ≤ x.toInt) (h2 : x.toInt < lo + k) : ∃ i : Fin k, x = Int32.ofInt (lo + (i.1 : Int)) :=
  ⟨⟨(x.toInt - lo).toNat, by omega⟩, by rw [show lo + (((x.toInt - lo).toNat : Nat) : Int) = x.toInt by omega]; exact (Int32.ofInt_toInt x).symm⟩
theorem own_b01 : ∀ i : Fin 128, own_tab (Int32.ofInt (0 + (i.1 : Int))).toNatClampNeg = own_bits (Int32.ofInt (0 + (i.1 : Int))) := by decide +kernel
theorem own_one (c l u : Int32) : own_in c l u = 0 ∨ own_in c l u = 1 := by unfold own_in; repeat' split
                                                                            all_goals simp
theorem own_comb : ∀ a b c d e f : Fin 2, ∀ k : Fin 64, (if ((Int32.ofInt (a.1 : Int) + 2 * Int32.ofInt (b.1 : Int) + 4 * Int32.ofInt (c.1 : Int) + 8 * Int32.ofInt (d.1 : Int) + 16 * Int32.ofInt (e.1 : Int) + 32 * Int32.ofInt (f.1 : Int)) &&& Int32.ofInt (0 + (k.1 : Int))) = (0 : Int32) then (0 : Int32) else (1 : Int32)) = own_e (Int32.ofInt (a.1 : Int)) (Int32.ofInt (b.1 : Int)) (Int32.ofInt (c.1 : Int)) (Int32.ofInt (d.1 : Int)) (Int32.ofInt (e.1 : Int)) (Int32.ofInt (f.1 : Int)) (Int32.ofInt (0 + (k.1 : Int))) := by decide +kernel
def own_B (x : Int32) : Prop := ∃ i : Fin 2, x = Int32.ofInt (i.1 : Int)
theorem own_B0 : own_B 0 := ⟨0, by decide⟩
theorem own_B1 : own_B 1 := ⟨1, by decide⟩
theorem own_Bin (c l u : Int32) : own_B (own_in c l u) := by rcases own_one c l u with q | q <;> rw [q] <;> first | exact own_B0 | exact own_B1
theorem own_Bal (c : Int32) : own_B (own_al c) := by
  unfold own_al; repeat' split
  all_goals first | exact own_B0 | exact own_B1
theorem own_Bhx (c : Int32) : own_B (own_hx c) := by
  unfold own_hx; repeat' split
  all_goals first | exact own_B0 | exact own_B1
theorem own_Bun (c a b : Int32) : own_B (own_un c a b) := by
  unfold own_un; repeat' split
  all_goals first | exact own_B0 | exact own_B1
theorem own_Bge (c : Int32) : own_B (own_ge c) := by
  unfold own_ge; repeat' split
  all_goals first | exact own_B0 | exact own_B1
theorem own_Bsu (c : Int32) : own_B (own_su c) := by
  unfold own_su; repeat' split
  all_goals first | exact own_B0 | exact own_B1
theorem own_high {c : Int32} (h : ¬ c < (128 : Int32)) (k : Int32) : own_all c k = 0 := by
  have i1 : ∀ l u : Int32, u < (128 : Int32) → own_in c l u = 0 := by
    intro l u hu; unfold own_in; split
    · rfl
    · rw [if_pos]; rw [Int32.lt_iff_toInt_lt] at *; omega
  have ne : ∀ j : Int32, j < (128 : Int32) → ¬ c = j := fun j hj q => h (q ▸ hj)
  have a : own_al c = 0 := by unfold own_al; rw [i1 _ _ (by decide), i1 _ _ (by decide)]; decide
  have b := i1 (48 : Int32) (57 : Int32) (by decide)
  have x : own_hx c = 0 := by unfold own_hx; rw [i1 _ _ (by decide), i1 _ _ (by decide), i1 _ _ (by decide)]; decide
  unfold own_all
  rw [a, b, x]
  have d : own_un c 0 0 = 0 := by unfold own_un; simp [ne 45 (by decide), ne 46 (by decide), ne 95 (by decide), ne 126 (by decide)]
  have e : own_ge c = 0 := by unfold own_ge; simp [ne 58 (by decide), ne 47 (by decide), ne 63 (by decide), ne 35 (by decide), ne 91 (by decide), ne 93 (by decide), ne 64 (by decide)]
  have f : own_su c = 0 := by unfold own_su; simp [ne 33 (by decide), ne 36 (by decide), ne 38 (by decide), ne 39 (by decide), ne 40 (by decide), ne 41 (by decide), ne 42 (by decide), ne 43 (by decide), ne 44 (by decide), ne 59 (by decide), ne 61 (by decide)]
  rw [d, e, f]
  simp [own_e]
theorem own_law {c k : Int32} (h1 : 0 ≤ c.toInt) (h3 : 0 ≤ k.toInt) (h4 : k.toInt < 64) : own_isin c k = own_all c k := by
  by_cases h : c < (128 : Int32)
  · unfold own_isin
    rw [if_pos h]
    obtain ⟨i, hi⟩ := own_fin (x := c) (lo := 0) (k := 128) (by omega) (by rw [Int32.lt_iff_toInt_lt] at h; simp only [Int32.reduceToInt] at h; omega)
    obtain ⟨j, hj⟩ := own_fin (x := k) (lo := 0) (k := 64) (by omega) (by omega)
    rw [show own_tab c.toNatClampNeg = own_bits c by rw [hi]; exact own_b01 i]
    unfold own_bits own_all
    obtain ⟨a, ha⟩ := own_Bal c
    obtain ⟨b, hb⟩ := own_Bin c (48 : Int32) (57 : Int32)
    obtain ⟨x, hx⟩ := own_Bhx c
    obtain ⟨d, hd⟩ := own_Bun c (own_al c) (own_in c (48 : Int32) (57 : Int32))
    obtain ⟨e, he⟩ := own_Bge c
    obtain ⟨f, hf⟩ := own_Bsu c
    rw [hd, ha, hb, hx, he, hf, hj]
    exact own_comb a b x d e f j
  · unfold own_isin; rw [if_neg h, own_high h]
theorem own_k (x : Int32) : 0 ≤ (x &&& (63 : Int32)).toInt ∧ (x &&& (63 : Int32)).toInt < 64 := by
  have := c_mask x 63 6 (by decide) (by decide); omega
theorem own_vt (j : Int32) (h : ¬ j < 0 ∧ j < (128 : Int32)) : ((List.range 128).map fun i => Value.int (own_tab i)).getD j.toNatClampNeg (.int 0) = .int (own_tab j.toNatClampNeg) := by
  have : j.toNatClampNeg < 128 := by
    obtain ⟨h1, h2⟩ := h; rw [Int32.lt_iff_toInt_lt] at h1 h2; simp only [Int32.toNatClampNeg, Int32.reduceToInt] at *; omega
  simp [List.getD_eq_getElem?_getD, List.getElem?_map, List.getElem?_range this]
theorem d1_0 : decode method_2_code 0 = .ok (.iload_n 0, 1) := by decide +kernel
theorem d1_1 : decode method_2_code 1 = .ok (.iload_n 1, 1) := by decide +kernel
theorem d1_2 : decode method_2_code 2 = .ok (.if_icmp .lt 12, 3) := by decide +kernel
theorem d1_5 : decode method_2_code 5 = .ok (.iload_n 0, 1) := by decide +kernel
theorem d1_6 : decode method_2_code 6 = .ok (.iload_n 2, 1) := by decide +kernel
theorem d1_7 : decode method_2_code 7 = .ok (.if_icmp .gt 7, 3) := by decide +kernel
theorem d1_10 : decode method_2_code 10 = .ok (.iconst 1, 1) := by decide +kernel
theorem d1_11 : decode method_2_code 11 = .ok (.goto 4, 3) := by decide +kernel
theorem d1_14 : decode method_2_code 14 = .ok (.iconst 0, 1) := by decide +kernel
theorem d1_15 : decode method_2_code 15 = .ok (.ireturn, 1) := by decide +kernel
theorem pn_c0 : plainName "com/example/endereco/endereco/CharClassIsInPinLaw" = true := by first | (simp [plainName, overriddenIn]; done) | decide +kernel
theorem ef_1_III (m : MethodId) (x0 : Int32) (x1 : Int32) (x2 : Int32) : entryFrame m #[(.int x0), (.int x1), (.int x2)] 3 = mkF m 0 #[.val (.int x0), .val (.int x1), .val (.int x2)] [] := by first | (simp [entryFrame, mkF, argsToLocals, Value.category]; done) | rfl
set_option maxRecDepth 65536 in
set_option maxHeartbeats 40000000 in
theorem rm_in (l : Launch) (Z : State) (a0 : Array Value) (hw : ∀ d ∈ tables_1, d.before a0 Z = true) (p1 : Int32) (p2 : Int32) (p3 : Int32) (h0 : Heap) (n0 : Nat)  :
    own_Met l Z (⟨"com/example/endereco/endereco/CharClassIsInPinLaw", "in", "(CCC)Z"⟩ : MethodName) method_2_code 3 (some .boolean) ({ frames := 0, cells := 0, slots := 0, locals := 0 } : Room) #[(.int p1), (.int p2), (.int p3)] h0 (fun v h L => v = some (.int (own_in p1 p2 p3)) ∧ Fr n0 L ∧ h = h0) := by
  intro ws
  refine MetFree.of_bodySF (plainFor_of_name pn_c0) hisR ?_
  intro p e s m args below meth c s₁ Bd hml0 hP hK
  obtain ⟨rfl, hZ, hh⟩ := hP
  have hx := Bd.exec
  have hby := Bd.bytes
  have hml : c.maxLocals = 3 := hml0
  have hown : s.vm.findClass "com/example/endereco/endereco/CharClassIsInPinLaw" = some m.cls := findClass_of_methodNamed Bd.named
  have hnm := (name_of_methodNamed Bd.named Bd.method).1
  have hlk : meth.locks = false := Bd.notSynchronized
  have X0 : Stand p l e ({ frames := 0, cells := 0, slots := 0, locals := 0 } : Room) s m #[(.int p1), (.int p2), (.int p3)] below meth c s₁ [] 0 0 := Stand.of_body Bd
  have e0 : s₁.heap = h0 := by rw [← hh, Bd.state]; rfl
  have N0 := Fr.nil n0
  refine own_body (Q := fun v h L => v = some (.int (own_in p1 p2 p3)) ∧ Fr n0 L ∧ h = h0) ?_
  generalize hΦ : own_Fin s below _ _ _ = Φ
  refine own_cast (ef_1_III m p1 p2 p3) ?_
  show own_Run p e below Φ (s₁.setTop (mkF m 0 #[.val (.int p1), .val (.int p2), .val (.int p3)] []))
  refine own_go (fun t k => XS.iloadN X0.here hx rfl (hb hby d1_0) rfl  k) ?_
  refine own_go (fun t k => XS.iloadN X0.here hx rfl (hb hby d1_1) rfl  k) ?_
  by_cases hc2 : p1 < p2
  · refine own_go (fun t k => XS.icmpYes X0.here hx rfl (pc0 := 2) (pc' := 14) rfl (hb hby d1_2) rfl (tlt hc2).1 (by decide) (by decide) k) ?_
    refine own_go (fun t k => XS.iconst X0.here hx rfl (hb hby d1_14) k) ?_
    subst hΦ
    exact own_retN X0 hx (t := .boolean) Bd.returns (by simp) hlk (hb hby d1_15) e0 ⟨(by unfold own_in; rw [if_pos hc2]; rfl), N0, rfl⟩ (by decide) (by decide)
  · refine own_go (fun t k => XS.icmpNo X0.here hx rfl (hb hby d1_2) rfl (flt hc2).1 k) ?_
    show own_Run p e below Φ (s₁.setTop (mkF m 5 #[.val (.int p1), .val (.int p2), .val (.int p3)] []))
    refine own_go (fun t k => XS.iloadN X0.here hx rfl (hb hby d1_5) rfl  k) ?_
    refine own_go (fun t k => XS.iloadN X0.here hx rfl (hb hby d1_6) rfl  k) ?_
    by_cases hc7 : p3 < p1
    · refine own_go (fun t k => XS.icmpYes X0.here hx rfl (pc0 := 7) (pc' := 14) rfl (hb hby d1_7) rfl (tlt hc7).2.2.1 (by decide) (by decide) k) ?_
      refine own_go (fun t k => XS.iconst X0.here hx rfl (hb hby d1_14) k) ?_
      subst hΦ
      exact own_retN X0 hx (t := .boolean) Bd.returns (by simp) hlk (hb hby d1_15) e0 ⟨(by unfold own_in; rw [if_neg hc2, if_pos hc7]; rfl), N0, rfl⟩ (by decide) (by decide)
    · refine own_go (fun t k => XS.icmpNo X0.here hx rfl (hb hby d1_7) rfl (flt hc7).2.2.1 k) ?_
      show own_Run p e below Φ (s₁.setTop (mkF m 10 #[.val (.int p1), .val (.int p2), .val (.int p3)] []))
      refine own_go (fun t k => XS.iconst X0.here hx rfl (hb hby d1_10) k) ?_
      refine own_go (fun t k => XS.goto X0.here hx rfl (pc0 := 11) (pc' := 15) rfl (hb hby d1_11) (by decide) (by decide) k) ?_
      subst hΦ
      exact own_retN X0 hx (t := .boolean) Bd.returns (by simp) hlk (hb hby d1_15) e0 ⟨(by unfold own_in; rw [if_neg hc2, if_neg hc7]; rfl), N0, rfl⟩ (by decide) (by decide)
theorem d2_0 : decode prog_6_method_2_code 0 = .ok (.iload_n 0, 1) := by decide +kernel
theorem d2_1 : decode prog_6_method_2_code 1 = .ok (.getstatic 9, 3) := by decide +kernel
theorem d2_4 : decode prog_6_method_2_code 4 = .ok (.arraylength, 1) := by decide +kernel
theorem d2_5 : decode prog_6_method_2_code 5 = .ok (.if_icmp .ge 17, 3) := by decide +kernel
theorem d2_8 : decode prog_6_method_2_code 8 = .ok (.getstatic 9, 3) := by decide +kernel
theorem d2_11 : decode prog_6_method_2_code 11 = .ok (.iload_n 0, 1) := by decide +kernel
theorem d2_12 : decode prog_6_method_2_code 12 = .ok (.baload, 1) := by decide +kernel
theorem d2_13 : decode prog_6_method_2_code 13 = .ok (.iload_n 1, 1) := by decide +kernel
theorem d2_14 : decode prog_6_method_2_code 14 = .ok (.iand, 1) := by decide +kernel
theorem d2_15 : decode prog_6_method_2_code 15 = .ok (.ifCond .eq 7, 3) := by decide +kernel
theorem d2_18 : decode prog_6_method_2_code 18 = .ok (.iconst 1, 1) := by decide +kernel
theorem d2_19 : decode prog_6_method_2_code 19 = .ok (.goto 4, 3) := by decide +kernel
theorem d2_22 : decode prog_6_method_2_code 22 = .ok (.iconst 0, 1) := by decide +kernel
theorem d2_23 : decode prog_6_method_2_code 23 = .ok (.ireturn, 1) := by decide +kernel
theorem pn_c1 : plainName "com/example/endereco/endereco/CharClass" = true := by first | (simp [plainName, overriddenIn]; done) | decide +kernel
theorem ef_2_II (m : MethodId) (x0 : Int32) (x1 : Int32) : entryFrame m #[(.int x0), (.int x1)] 2 = mkF m 0 #[.val (.int x0), .val (.int x1)] [] := by first | (simp [entryFrame, mkF, argsToLocals, Value.category]; done) | rfl
set_option maxRecDepth 65536 in
set_option maxHeartbeats 40000000 in
theorem rm_isin (l : Launch) (Z : State) (a0 : Array Value) (hw : ∀ d ∈ tables_1, d.before a0 Z = true) (p1 : Int32) (p2 : Int32) (w1 : Addr) (k1 : ClassId) (h0 : Heap) (n0 : Nat) (H1 : Old Z n0 h0) (H2 : Sta Z Z.heap "com/example/endereco/endereco/CharClass" "CLASSES" "[B" (.ref w1)) (H3 : Arv Z h0 w1 k1 .byte (128 : Int32) ((List.range 128).map fun i => Value.int (own_tab i)) (.int 0)) (hp : ¬ p1 < (0 : Int32)) :
    own_Met l Z (⟨"com/example/endereco/endereco/CharClass", "isIn", "(CI)Z"⟩ : MethodName) prog_6_method_2_code 2 (some .boolean) ({ frames := 0, cells := 0, slots := 0, locals := 0 } : Room) #[(.int p1), (.int p2)] h0 (fun v h L => v = some (.int (own_isin p1 p2)) ∧ Fr n0 L ∧ h = h0) := by
  intro ws
  refine MetFree.of_bodySF (plainFor_of_name pn_c1) hisR ?_
  intro p e s m args below meth c s₁ Bd hml0 hP hK
  obtain ⟨rfl, hZ, hh⟩ := hP
  have hx := Bd.exec
  have hby := Bd.bytes
  have hml : c.maxLocals = 2 := hml0
  have hown : s.vm.findClass "com/example/endereco/endereco/CharClass" = some m.cls := findClass_of_methodNamed Bd.named
  have hnm := (name_of_methodNamed Bd.named Bd.method).1
  have hlk : meth.locks = false := Bd.notSynchronized
  have X0 : Stand p l e ({ frames := 0, cells := 0, slots := 0, locals := 0 } : Room) s m #[(.int p1), (.int p2)] below meth c s₁ [] 0 0 := Stand.of_body Bd
  have e0 : s₁.heap = h0 := by rw [← hh, Bd.state]; rfl
  have N0 := Fr.nil n0
  refine own_body (Q := fun v h L => v = some (.int (own_isin p1 p2)) ∧ Fr n0 L ∧ h = h0) ?_
  generalize hΦ : own_Fin s below _ _ _ = Φ
  refine own_cast (ef_2_II m p1 p2) ?_
  show own_Run p e below Φ (s₁.setTop (mkF m 0 #[.val (.int p1), .val (.int p2)] []))
  refine own_go (fun t k => XS.iloadN X0.here hx rfl (hb hby d2_0) rfl  k) ?_
  obtain ⟨T1, X1, e1, st1⟩ := getS2 X0 hx hZ hown (host := "") (Or.inl (hw _ (List.mem_of_getElem? (i := 9) rfl))) Via.refl e0 (H2.ext H1.2) (g := (mkF m 1 #[.val (.int p1), .val (.int p2)] [(.int p1)])) rfl (hb hby d2_1)
  refine own_go st1 ?_
  refine own_arrlen X1 hx hZ e1 H3 (g := (mkF m 4 #[.val (.int p1), .val (.int p2)] [(.ref w1), (.int p1)])) rfl rfl (hb hby d2_4) ?_
  by_cases hc5 : p1 < (128 : Int32)
  · refine own_go (fun t k => XS.icmpNo X1.here hx rfl (hb hby d2_5) rfl (tlt hc5).2.1 k) ?_
    obtain ⟨T2, X2, e2, st2⟩ := getS2 X1 hx hZ hown (host := "") (Or.inl (hw _ (List.mem_of_getElem? (i := 9) rfl))) Via.refl e1 (H2.ext H1.2) (g := (mkF m 8 #[.val (.int p1), .val (.int p2)] [])) rfl (hb hby d2_8)
    refine own_go st2 ?_
    show own_Run p e below Φ (T2.setTop (mkF m 11 #[.val (.int p1), .val (.int p2)] [(.ref w1)]))
    refine own_go (fun t k => XS.iloadN X2.here hx rfl (hb hby d2_11) rfl  k) ?_
    refine own_baload X2 hx hZ e2 H3 (j := p1) (v := (.int (own_tab p1.toNatClampNeg))) ⟨hp, hc5⟩ (own_vt _ ⟨hp, hc5⟩) (g := (mkF m 12 #[.val (.int p1), .val (.int p2)] [(.int p1), (.ref w1)])) rfl rfl (hb hby d2_12) ?_
    refine own_go (fun t k => XS.iloadN X2.here hx rfl (hb hby d2_13) rfl  k) ?_
    refine own_go (fun t k => XS.iand X2.here hx rfl (hb hby d2_14) rfl k) ?_
    by_cases hc15 : ((own_tab p1.toNatClampNeg) &&& p2) = (0 : Int32)
    · refine own_go (fun t k => XS.ifYes X2.here hx rfl (pc0 := 15) (pc' := 22) rfl (hb hby d2_15) rfl ((if0 _ _).trans (teq hc15).1) (by decide) (by decide) k) ?_
      show own_Run p e below Φ (T2.setTop (mkF m 22 #[.val (.int p1), .val (.int p2)] []))
      refine own_go (fun t k => XS.iconst X2.here hx rfl (hb hby d2_22) k) ?_
      subst hΦ
      exact own_retN X2 hx (t := .boolean) Bd.returns (by simp) hlk (hb hby d2_23) e2 ⟨(by unfold own_isin; rw [if_pos hc5, if_pos hc15]; rfl), N0, rfl⟩ (by decide) (by decide)
    · refine own_go (fun t k => XS.ifNo X2.here hx rfl (hb hby d2_15) rfl ((if0 _ _).trans (feq hc15).1) k) ?_
      refine own_go (fun t k => XS.iconst X2.here hx rfl (hb hby d2_18) k) ?_
      refine own_go (fun t k => XS.goto X2.here hx rfl (pc0 := 19) (pc' := 23) rfl (hb hby d2_19) (by decide) (by decide) k) ?_
      subst hΦ
      exact own_retN X2 hx (t := .boolean) Bd.returns (by simp) hlk (hb hby d2_23) e2 ⟨(by unfold own_isin; rw [if_pos hc5, if_neg hc15]; rfl), N0, rfl⟩ (by decide) (by decide)
  · refine own_go (fun t k => XS.icmpYes X1.here hx rfl (pc0 := 5) (pc' := 22) rfl (hb hby d2_5) rfl (flt hc5).2.1 (by decide) (by decide) k) ?_
    show own_Run p e below Φ (T1.setTop (mkF m 22 #[.val (.int p1), .val (.int p2)] []))
    refine own_go (fun t k => XS.iconst X1.here hx rfl (hb hby d2_22) k) ?_
    subst hΦ
    exact own_retN X1 hx (t := .boolean) Bd.returns (by simp) hlk (hb hby d2_23) e1 ⟨(by unfold own_isin; rw [if_neg hc5]; rfl), N0, rfl⟩ (by decide) (by decide)
theorem own_nn (x : Int32) : ¬ x.toUInt32.toUInt16.toUInt32.toInt32 < (0 : Int32) := by
  have := c_i2c x; rw [Int32.lt_iff_toInt_lt]; simp only [Int32.reduceToInt]; omega
theorem pd_0 : parseMethodDescriptor "(CCC)Z" = some ⟨[.char, .char, .char], some .boolean⟩ := by decide +kernel
theorem pd_1 : parseMethodDescriptor "(CI)Z" = some ⟨[.char, .int], some .boolean⟩ := by decide +kernel
theorem ef_0_III (m : MethodId) (x0 : Int32) (x1 : Int32) (x2 : Int32) : entryFrame m #[(.int x0), (.int x1), (.int x2)] maxLocals = mkF m 0 #[.val (.int x0), .val (.int x1), .val (.int x2), .unset, .unset, .unset, .unset, .unset, .unset, .unset, .unset, .unset, .unset] [] := by first | (simp [entryFrame, mkF, argsToLocals, Value.category, maxLocals]; done) | rfl
set_option maxRecDepth 65536 in
set_option maxHeartbeats 40000000 in
theorem rm_law (l : Launch) (Z : State) (a0 : Array Value) (hw : ∀ d ∈ tables_1, d.before a0 Z = true) (p1 : Int32) (p2 : Int32) (p3 : Int32) (w1 : Addr) (k1 : ClassId) (h0 : Heap) (n0 : Nat) (O0 : Old Z n0 h0) (S0 : Sta Z Z.heap "com/example/endereco/endereco/CharClass" "CLASSES" "[B" (.ref w1)) (V0 : Arv Z Z.heap w1 k1 .byte (128 : Int32) ((List.range 128).map fun i => Value.int (own_tab i)) (.int 0)) :
    own_Met l Z x code maxLocals ret room_1 #[(.int p1), (.int p2), (.int p3)] h0 (fun v h L => v = some (.int 1) ∧ Fr n0 L) := by
  intro ws
  refine MetFree.of_bodySF (plainFor_of_name pn_c0) hisR ?_
  intro p e s m args below meth c s₁ Bd hml0 hP hK
  obtain ⟨rfl, hZ, hh⟩ := hP
  have hx := Bd.exec
  have hby := Bd.bytes
  have hml : c.maxLocals = 13 := hml0
  have hown : s.vm.findClass "com/example/endereco/endereco/CharClassIsInPinLaw" = some m.cls := findClass_of_methodNamed Bd.named
  have hnm := (name_of_methodNamed Bd.named Bd.method).1
  have hlk : meth.locks = false := Bd.notSynchronized
  have X0 : Stand p l e room_1 s m #[(.int p1), (.int p2), (.int p3)] below meth c s₁ [] 0 0 := Stand.of_body Bd
  have e0 : s₁.heap = h0 := by rw [← hh, Bd.state]; rfl
  have N0 := Fr.nil n0
  refine own_body (Q := fun v h L => v = some (.int 1) ∧ Fr n0 L) ?_
  generalize hΦ : own_Fin s below _ _ _ = Φ
  refine own_cast (ef_0_III m p1 p2 p3) ?_
  show own_Run p e below Φ (s₁.setTop (mkF m 0 #[.val (.int p1), .val (.int p2), .val (.int p3), .unset, .unset, .unset, .unset, .unset, .unset, .unset, .unset, .unset, .unset] []))
  have J19_1 : ∀ (cc : Int32), (¬ cc < (0 : Int32)) → own_Run p e below Φ (s₁.setTop (mkF m 19 #[.val (.int p1), .val (.int p2), .val (.int p3), .unset, .unset, .unset, .unset, .unset, .unset, .unset, .unset, .unset, .unset] [(.int cc)])) := by
    intro cc hcc
    show own_Run p e below Φ (s₁.setTop (mkF m 19 #[.val (.int p1), .val (.int p2), .val (.int p3), .unset, .unset, .unset, .unset, .unset, .unset, .unset, .unset, .unset, .unset] [(.int cc)]))
    refine own_go (fun t k => XS.istoreN X0.here hx rfl (hb hby at_19) rfl (l' := #[.val (.int p1), .val (.int p2), .val (.int p3), .val (.int cc), .unset, .unset, .unset, .unset, .unset, .unset, .unset, .unset, .unset]) rfl k) ?_
    refine own_go (fun t k => XS.iloadN X0.here hx rfl (hb hby at_20) rfl  k) ?_
    refine own_go (fun t k => XS.bipush X0.here hx rfl (hb hby at_21) k) ?_
    refine own_go (fun t k => XS.iand X0.here hx rfl (hb hby at_23) rfl k) ?_
    refine own_go (fun t k => XS.istore X0.here hx rfl (hb hby at_24) rfl (l' := #[.val (.int p1), .val (.int p2), .val (.int p3), .val (.int cc), .val (.int (p2 &&& (63 : Int32))), .unset, .unset, .unset, .unset, .unset, .unset, .unset, .unset]) rfl k) ?_
    show own_Run p e below Φ (s₁.setTop (mkF m 26 #[.val (.int p1), .val (.int p2), .val (.int p3), .val (.int cc), .val (.int (p2 &&& (63 : Int32))), .unset, .unset, .unset, .unset, .unset, .unset, .unset, .unset] []))
    have hk := own_k p2
    generalize ekk : (p2 &&& (63 : Int32)) = kk at hk
    have J53_2 : ∀ (al : Int32) (T3 : State) (h3 : Heap) (l3 : List Loc) (c3 z3 : Nat), (Stand p l e room_1 s m #[(.int p1), (.int p2), (.int p3)] below meth c T3 l3 c3 z3) → (T3.heap = h3) → (Fr n0 l3) → (c3 ≤ 0) → (z3 ≤ 0) → (Old Z n0 h3) → (al = own_al cc) → own_Run p e below Φ (T3.setTop (mkF m 53 #[.val (.int p1), .val (.int p2), .val (.int p3), .val (.int cc), .val (.int kk), .unset, .unset, .unset, .unset, .unset, .unset, .unset, .unset] [(.int al)])) := by
      intro al T3 h3 l3 c3 z3 X3 e3 N3 hc3 hs3 F4 hal
      show own_Run p e below Φ (T3.setTop (mkF m 53 #[.val (.int p1), .val (.int p2), .val (.int p3), .val (.int cc), .val (.int kk), .unset, .unset, .unset, .unset, .unset, .unset, .unset, .unset] [(.int al)]))
      refine own_go (fun t k => XS.istore X3.here hx rfl (hb hby at_53) rfl (l' := #[.val (.int p1), .val (.int p2), .val (.int p3), .val (.int cc), .val (.int kk), .val (.int al), .unset, .unset, .unset, .unset, .unset, .unset, .unset]) rfl k) ?_
      refine own_go (fun t k => XS.iloadN X3.here hx rfl (hb hby at_55) rfl  k) ?_
      refine own_go (fun t k => XS.bipush X3.here hx rfl (hb hby at_56) k) ?_
      refine own_go (fun t k => XS.bipush X3.here hx rfl (hb hby at_58) k) ?_
      refine own_callS X3 hx hZ (y := (⟨"com/example/endereco/endereco/CharClassIsInPinLaw", "in", "(CCC)Z"⟩ : MethodName)) (W := 0) (argsL := [(.int cc), (.int (48 : Int32)), (.int (57 : Int32))]) (rest := []) hown (hw _ (List.mem_of_getElem? (i := 1) rfl)) (hw _ (List.mem_of_getElem? (i := 2) rfl)) (hw _ (List.mem_of_getElem? (i := 3) rfl)) (hw _ (List.mem_of_getElem? (i := 4) rfl)) (by decide) (own_bk (rm_in l Z a0 hw cc (48 : Int32) (57 : Int32) h3 n0 ) hZ (hw _ (List.mem_of_getElem? (i := 4) rfl)) (hw _ (List.mem_of_getElem? (i := 3) rfl)) (by decide) (by decide)) e3 (g := (mkF m 60 #[.val (.int p1), .val (.int p2), .val (.int p3), .val (.int cc), .val (.int kk), .val (.int al), .unset, .unset, .unset, .unset, .unset, .unset, .unset] [(.int (57 : Int32)), (.int (48 : Int32)), (.int cc)])) rfl (by rw [hml]; rfl) (lenOf pd_0 rfl) rfl (by show 2 * 0 + _ ≤ _; exact Nat.le_of_eq rfl) (hb hby at_60) (own_le hc3 (by decide)) (own_le hs3 (by decide)) (fun v5 T5 h5 L5 X5 e5 q5 => ?_)
      obtain ⟨rfl, M5, s5⟩ := q5
      replace e5 : T5.heap = h3 := e5.trans s5
      have N5 := Fr.app N3 M5
      show own_Run p e below Φ (T5.setTop (mkF m 63 #[.val (.int p1), .val (.int p2), .val (.int p3), .val (.int cc), .val (.int kk), .val (.int al), .unset, .unset, .unset, .unset, .unset, .unset, .unset] [(.int (own_in cc (48 : Int32) (57 : Int32)))]))
      refine own_go (fun t k => XS.istore X5.here hx rfl (hb hby at_63) rfl (l' := #[.val (.int p1), .val (.int p2), .val (.int p3), .val (.int cc), .val (.int kk), .val (.int al), .val (.int (own_in cc (48 : Int32) (57 : Int32))), .unset, .unset, .unset, .unset, .unset, .unset]) rfl k) ?_
      show own_Run p e below Φ (T5.setTop (mkF m 65 #[.val (.int p1), .val (.int p2), .val (.int p3), .val (.int cc), .val (.int kk), .val (.int al), .val (.int (own_in cc (48 : Int32) (57 : Int32))), .unset, .unset, .unset, .unset, .unset, .unset] []))
      have J97_6 : ∀ (xx : Int32) (T7 : State) (h7 : Heap) (l7 : List Loc) (c7 z7 : Nat), (Stand p l e room_1 s m #[(.int p1), (.int p2), (.int p3)] below meth c T7 l7 c7 z7) → (T7.heap = h7) → (Fr n0 l7) → (c7 ≤ 0) → (z7 ≤ 0) → (Old Z n0 h7) → (xx = own_hx cc) → own_Run p e below Φ (T7.setTop (mkF m 97 #[.val (.int p1), .val (.int p2), .val (.int p3), .val (.int cc), .val (.int kk), .val (.int al), .val (.int (own_in cc (48 : Int32) (57 : Int32))), .unset, .unset, .unset, .unset, .unset, .unset] [(.int xx)])) := by
        intro xx T7 h7 l7 c7 z7 X7 e7 N7 hc7 hs7 F8 hhx
        show own_Run p e below Φ (T7.setTop (mkF m 97 #[.val (.int p1), .val (.int p2), .val (.int p3), .val (.int cc), .val (.int kk), .val (.int al), .val (.int (own_in cc (48 : Int32) (57 : Int32))), .unset, .unset, .unset, .unset, .unset, .unset] [(.int xx)]))
        refine own_go (fun t k => XS.istore X7.here hx rfl (hb hby at_97) rfl (l' := #[.val (.int p1), .val (.int p2), .val (.int p3), .val (.int cc), .val (.int kk), .val (.int al), .val (.int (own_in cc (48 : Int32) (57 : Int32))), .val (.int xx), .unset, .unset, .unset, .unset, .unset]) rfl k) ?_
        show own_Run p e below Φ (T7.setTop (mkF m 99 #[.val (.int p1), .val (.int p2), .val (.int p3), .val (.int cc), .val (.int kk), .val (.int al), .val (.int (own_in cc (48 : Int32) (57 : Int32))), .val (.int xx), .unset, .unset, .unset, .unset, .unset] []))
        have J138_9 : ∀ (un : Int32), (un = own_un cc al (own_in cc (48 : Int32) (57 : Int32))) → own_Run p e below Φ (T7.setTop (mkF m 138 #[.val (.int p1), .val (.int p2), .val (.int p3), .val (.int cc), .val (.int kk), .val (.int al), .val (.int (own_in cc (48 : Int32) (57 : Int32))), .val (.int xx), .unset, .unset, .unset, .unset, .unset] [(.int un)])) := by
          intro un hun
          show own_Run p e below Φ (T7.setTop (mkF m 138 #[.val (.int p1), .val (.int p2), .val (.int p3), .val (.int cc), .val (.int kk), .val (.int al), .val (.int (own_in cc (48 : Int32) (57 : Int32))), .val (.int xx), .unset, .unset, .unset, .unset, .unset] [(.int un)]))
          refine own_go (fun t k => XS.istore X7.here hx rfl (hb hby at_138) rfl (l' := #[.val (.int p1), .val (.int p2), .val (.int p3), .val (.int cc), .val (.int kk), .val (.int al), .val (.int (own_in cc (48 : Int32) (57 : Int32))), .val (.int xx), .val (.int un), .unset, .unset, .unset, .unset]) rfl k) ?_
          show own_Run p e below Φ (T7.setTop (mkF m 140 #[.val (.int p1), .val (.int p2), .val (.int p3), .val (.int cc), .val (.int kk), .val (.int al), .val (.int (own_in cc (48 : Int32) (57 : Int32))), .val (.int xx), .val (.int un), .unset, .unset, .unset, .unset] []))
          have J187_10 : ∀ (ge : Int32), (ge = own_ge cc) → own_Run p e below Φ (T7.setTop (mkF m 187 #[.val (.int p1), .val (.int p2), .val (.int p3), .val (.int cc), .val (.int kk), .val (.int al), .val (.int (own_in cc (48 : Int32) (57 : Int32))), .val (.int xx), .val (.int un), .unset, .unset, .unset, .unset] [(.int ge)])) := by
            intro ge hge
            show own_Run p e below Φ (T7.setTop (mkF m 187 #[.val (.int p1), .val (.int p2), .val (.int p3), .val (.int cc), .val (.int kk), .val (.int al), .val (.int (own_in cc (48 : Int32) (57 : Int32))), .val (.int xx), .val (.int un), .unset, .unset, .unset, .unset] [(.int ge)]))
            refine own_go (fun t k => XS.istore X7.here hx rfl (hb hby at_187) rfl (l' := #[.val (.int p1), .val (.int p2), .val (.int p3), .val (.int cc), .val (.int kk), .val (.int al), .val (.int (own_in cc (48 : Int32) (57 : Int32))), .val (.int xx), .val (.int un), .val (.int ge), .unset, .unset, .unset]) rfl k) ?_
            show own_Run p e below Φ (T7.setTop (mkF m 189 #[.val (.int p1), .val (.int p2), .val (.int p3), .val (.int cc), .val (.int kk), .val (.int al), .val (.int (own_in cc (48 : Int32) (57 : Int32))), .val (.int xx), .val (.int un), .val (.int ge), .unset, .unset, .unset] []))
            have J260_11 : ∀ (su : Int32), (su = own_su cc) → own_Run p e below Φ (T7.setTop (mkF m 260 #[.val (.int p1), .val (.int p2), .val (.int p3), .val (.int cc), .val (.int kk), .val (.int al), .val (.int (own_in cc (48 : Int32) (57 : Int32))), .val (.int xx), .val (.int un), .val (.int ge), .unset, .unset, .unset] [(.int su)])) := by
              intro su hsu
              show own_Run p e below Φ (T7.setTop (mkF m 260 #[.val (.int p1), .val (.int p2), .val (.int p3), .val (.int cc), .val (.int kk), .val (.int al), .val (.int (own_in cc (48 : Int32) (57 : Int32))), .val (.int xx), .val (.int un), .val (.int ge), .unset, .unset, .unset] [(.int su)]))
              refine own_go (fun t k => XS.istore X7.here hx rfl (hb hby at_260) rfl (l' := #[.val (.int p1), .val (.int p2), .val (.int p3), .val (.int cc), .val (.int kk), .val (.int al), .val (.int (own_in cc (48 : Int32) (57 : Int32))), .val (.int xx), .val (.int un), .val (.int ge), .val (.int su), .unset, .unset]) rfl k) ?_
              show own_Run p e below Φ (T7.setTop (mkF m 262 #[.val (.int p1), .val (.int p2), .val (.int p3), .val (.int cc), .val (.int kk), .val (.int al), .val (.int (own_in cc (48 : Int32) (57 : Int32))), .val (.int xx), .val (.int un), .val (.int ge), .val (.int su), .unset, .unset] []))
              have J342_12 : ∀ (ex : Int32), (ex = own_e al (own_in cc (48 : Int32) (57 : Int32)) xx un ge su kk) → own_Run p e below Φ (T7.setTop (mkF m 342 #[.val (.int p1), .val (.int p2), .val (.int p3), .val (.int cc), .val (.int kk), .val (.int al), .val (.int (own_in cc (48 : Int32) (57 : Int32))), .val (.int xx), .val (.int un), .val (.int ge), .val (.int su), .unset, .unset] [(.int ex)])) := by
                intro ex hex
                show own_Run p e below Φ (T7.setTop (mkF m 342 #[.val (.int p1), .val (.int p2), .val (.int p3), .val (.int cc), .val (.int kk), .val (.int al), .val (.int (own_in cc (48 : Int32) (57 : Int32))), .val (.int xx), .val (.int un), .val (.int ge), .val (.int su), .unset, .unset] [(.int ex)]))
                refine own_go (fun t k => XS.istore X7.here hx rfl (hb hby at_342) rfl (l' := #[.val (.int p1), .val (.int p2), .val (.int p3), .val (.int cc), .val (.int kk), .val (.int al), .val (.int (own_in cc (48 : Int32) (57 : Int32))), .val (.int xx), .val (.int un), .val (.int ge), .val (.int su), .val (.int ex), .unset]) rfl k) ?_
                refine own_go (fun t k => XS.iconst X7.here hx rfl (hb hby at_344) k) ?_
                refine own_go (fun t k => XS.istore X7.here hx rfl (hb hby at_345) rfl (l' := #[.val (.int p1), .val (.int p2), .val (.int p3), .val (.int cc), .val (.int kk), .val (.int al), .val (.int (own_in cc (48 : Int32) (57 : Int32))), .val (.int xx), .val (.int un), .val (.int ge), .val (.int su), .val (.int ex), .val (.int (1 : Int32))]) rfl k) ?_
                refine own_go (fun t k => XS.iload X7.here hx rfl (hb hby at_347) rfl  k) ?_
                refine own_go (fun t k => XS.ifNo X7.here hx rfl (hb hby at_349) rfl ((if0 _ _).trans (feq (by decide : ¬ ((1 : Int32) = (0 : Int32)))).1) k) ?_
                show own_Run p e below Φ (T7.setTop (mkF m 352 #[.val (.int p1), .val (.int p2), .val (.int p3), .val (.int cc), .val (.int kk), .val (.int al), .val (.int (own_in cc (48 : Int32) (57 : Int32))), .val (.int xx), .val (.int un), .val (.int ge), .val (.int su), .val (.int ex), .val (.int (1 : Int32))] []))
                refine own_go (fun t k => XS.iloadN X7.here hx rfl (hb hby at_352) rfl  k) ?_
                refine own_go (fun t k => XS.iload X7.here hx rfl (hb hby at_353) rfl  k) ?_
                have F13 : Arv Z h7 w1 k1 .byte (128 : Int32) ((List.range 128).map fun i => Value.int (own_tab i)) (.int 0) := V0.ext F8.2
                refine own_callS X7 hx hZ (y := (⟨"com/example/endereco/endereco/CharClass", "isIn", "(CI)Z"⟩ : MethodName)) (W := 0) (argsL := [(.int cc), (.int kk)]) (rest := []) hown (hw _ (List.mem_of_getElem? (i := 5) rfl)) (hw _ (List.mem_of_getElem? (i := 6) rfl)) (hw _ (List.mem_of_getElem? (i := 7) rfl)) (hw _ (List.mem_of_getElem? (i := 8) rfl)) (by decide) (own_bk (rm_isin l Z a0 hw cc kk w1 k1 h7 n0 F8 S0 F13 hcc) hZ (hw _ (List.mem_of_getElem? (i := 8) rfl)) (hw _ (List.mem_of_getElem? (i := 7) rfl)) (by decide) (by decide)) e7 (g := (mkF m 355 #[.val (.int p1), .val (.int p2), .val (.int p3), .val (.int cc), .val (.int kk), .val (.int al), .val (.int (own_in cc (48 : Int32) (57 : Int32))), .val (.int xx), .val (.int un), .val (.int ge), .val (.int su), .val (.int ex), .val (.int (1 : Int32))] [(.int kk), (.int cc)])) rfl (by rw [hml]; rfl) (lenOf pd_1 rfl) rfl (by show 2 * 0 + _ ≤ _; exact Nat.le_of_eq rfl) (hb hby at_355) (own_le hc7 (by decide)) (own_le hs7 (by decide)) (fun v14 T14 h14 L14 X14 e14 q14 => ?_)
                obtain ⟨rfl, M14, s14⟩ := q14
                replace e14 : T14.heap = h7 := e14.trans s14
                have N14 := Fr.app N7 M14
                refine own_go (fun t k => XS.iload X14.here hx rfl (hb hby at_358) rfl  k) ?_
                have hc360 : (own_isin cc kk) = ex := ((own_law (by rw [Int32.lt_iff_toInt_lt] at hcc; simp only [Int32.reduceToInt] at hcc; omega) hk.1 hk.2).trans (by rw [hex, hal, hhx, hun, hge, hsu, hal]; rfl))
                refine own_go (fun t k => XS.icmpNo X14.here hx rfl (hb hby at_360) rfl (teq hc360).2 k) ?_
                show own_Run p e below Φ (T14.setTop (mkF m 363 #[.val (.int p1), .val (.int p2), .val (.int p3), .val (.int cc), .val (.int kk), .val (.int al), .val (.int (own_in cc (48 : Int32) (57 : Int32))), .val (.int xx), .val (.int un), .val (.int ge), .val (.int su), .val (.int ex), .val (.int (1 : Int32))] []))
                refine own_go (fun t k => XS.iconst X14.here hx rfl (hb hby at_363) k) ?_
                refine own_go (fun t k => XS.goto X14.here hx rfl (pc0 := 364) (pc' := 368) rfl (hb hby at_364) (by decide) (by decide) k) ?_
                subst hΦ
                exact own_retN X14 hx (t := .boolean) Bd.returns (by simp) hlk (hb hby at_368) e14 ⟨rfl, N14⟩ (Nat.le_trans (Nat.add_le_add_right hc7 0) (by decide)) (Nat.le_trans (Nat.add_le_add_right hs7 0) (by decide))
              have J324_15 : (¬ (¬ al = (0 : Int32) ∧ ¬ (kk &&& (1 : Int32)) = (0 : Int32))) → (¬ (¬ (own_in cc (48 : Int32) (57 : Int32)) = (0 : Int32) ∧ ¬ (kk &&& (2 : Int32)) = (0 : Int32))) → (¬ (¬ xx = (0 : Int32) ∧ ¬ (kk &&& (4 : Int32)) = (0 : Int32))) → (¬ (¬ un = (0 : Int32) ∧ ¬ (kk &&& (8 : Int32)) = (0 : Int32))) → (¬ (¬ ge = (0 : Int32) ∧ ¬ (kk &&& (16 : Int32)) = (0 : Int32))) → own_Run p e below Φ (T7.setTop (mkF m 324 #[.val (.int p1), .val (.int p2), .val (.int p3), .val (.int cc), .val (.int kk), .val (.int al), .val (.int (own_in cc (48 : Int32) (57 : Int32))), .val (.int xx), .val (.int un), .val (.int ge), .val (.int su), .unset, .unset] [])) := by
                intro hA0 hA1 hA2 hA3 hA4
                show own_Run p e below Φ (T7.setTop (mkF m 324 #[.val (.int p1), .val (.int p2), .val (.int p3), .val (.int cc), .val (.int kk), .val (.int al), .val (.int (own_in cc (48 : Int32) (57 : Int32))), .val (.int xx), .val (.int un), .val (.int ge), .val (.int su), .unset, .unset] []))
                refine own_go (fun t k => XS.iload X7.here hx rfl (hb hby at_324) rfl  k) ?_
                by_cases hc326 : su = (0 : Int32)
                · refine own_go (fun t k => XS.ifYes X7.here hx rfl (pc0 := 326) (pc' := 341) rfl (hb hby at_326) rfl ((if0 _ _).trans (teq hc326).1) (by decide) (by decide) k) ?_
                  refine own_go (fun t k => XS.iconst X7.here hx rfl (hb hby at_341) k) ?_
                  exact J342_12 (0 : Int32) (by simp [own_e, hc326, hA0, hA1, hA2, hA3, hA4])
                · refine own_go (fun t k => XS.ifNo X7.here hx rfl (hb hby at_326) rfl ((if0 _ _).trans (feq hc326).1) k) ?_
                  refine own_go (fun t k => XS.iload X7.here hx rfl (hb hby at_329) rfl  k) ?_
                  refine own_go (fun t k => XS.bipush X7.here hx rfl (hb hby at_331) k) ?_
                  show own_Run p e below Φ (T7.setTop (mkF m 333 #[.val (.int p1), .val (.int p2), .val (.int p3), .val (.int cc), .val (.int kk), .val (.int al), .val (.int (own_in cc (48 : Int32) (57 : Int32))), .val (.int xx), .val (.int un), .val (.int ge), .val (.int su), .unset, .unset] [(.int (32 : Int32)), (.int kk)]))
                  refine own_go (fun t k => XS.iand X7.here hx rfl (hb hby at_333) rfl k) ?_
                  by_cases hc334 : (kk &&& (32 : Int32)) = (0 : Int32)
                  · refine own_go (fun t k => XS.ifYes X7.here hx rfl (pc0 := 334) (pc' := 341) rfl (hb hby at_334) rfl ((if0 _ _).trans (teq hc334).1) (by decide) (by decide) k) ?_
                    refine own_go (fun t k => XS.iconst X7.here hx rfl (hb hby at_341) k) ?_
                    exact J342_12 (0 : Int32) (by simp [own_e, hc326, hc334, hA0, hA1, hA2, hA3, hA4])
                  · refine own_go (fun t k => XS.ifNo X7.here hx rfl (hb hby at_334) rfl ((if0 _ _).trans (feq hc334).1) k) ?_
                    refine own_go (fun t k => XS.iconst X7.here hx rfl (hb hby at_337) k) ?_
                    refine own_go (fun t k => XS.goto X7.here hx rfl (pc0 := 338) (pc' := 342) rfl (hb hby at_338) (by decide) (by decide) k) ?_
                    exact J342_12 (1 : Int32) (by simp [own_e, hc326, hc334, hA0, hA1, hA2, hA3, hA4])
              have J311_16 : (¬ (¬ al = (0 : Int32) ∧ ¬ (kk &&& (1 : Int32)) = (0 : Int32))) → (¬ (¬ (own_in cc (48 : Int32) (57 : Int32)) = (0 : Int32) ∧ ¬ (kk &&& (2 : Int32)) = (0 : Int32))) → (¬ (¬ xx = (0 : Int32) ∧ ¬ (kk &&& (4 : Int32)) = (0 : Int32))) → (¬ (¬ un = (0 : Int32) ∧ ¬ (kk &&& (8 : Int32)) = (0 : Int32))) → own_Run p e below Φ (T7.setTop (mkF m 311 #[.val (.int p1), .val (.int p2), .val (.int p3), .val (.int cc), .val (.int kk), .val (.int al), .val (.int (own_in cc (48 : Int32) (57 : Int32))), .val (.int xx), .val (.int un), .val (.int ge), .val (.int su), .unset, .unset] [])) := by
                intro hA0 hA1 hA2 hA3
                show own_Run p e below Φ (T7.setTop (mkF m 311 #[.val (.int p1), .val (.int p2), .val (.int p3), .val (.int cc), .val (.int kk), .val (.int al), .val (.int (own_in cc (48 : Int32) (57 : Int32))), .val (.int xx), .val (.int un), .val (.int ge), .val (.int su), .unset, .unset] []))
                refine own_go (fun t k => XS.iload X7.here hx rfl (hb hby at_311) rfl  k) ?_
                by_cases hc313 : ge = (0 : Int32)
                · refine own_go (fun t k => XS.ifYes X7.here hx rfl (pc0 := 313) (pc' := 324) rfl (hb hby at_313) rfl ((if0 _ _).trans (teq hc313).1) (by decide) (by decide) k) ?_
                  exact J324_15 hA0 hA1 hA2 hA3 (by simp [hc313])
                · refine own_go (fun t k => XS.ifNo X7.here hx rfl (hb hby at_313) rfl ((if0 _ _).trans (feq hc313).1) k) ?_
                  refine own_go (fun t k => XS.iload X7.here hx rfl (hb hby at_316) rfl  k) ?_
                  refine own_go (fun t k => XS.bipush X7.here hx rfl (hb hby at_318) k) ?_
                  refine own_go (fun t k => XS.iand X7.here hx rfl (hb hby at_320) rfl k) ?_
                  show own_Run p e below Φ (T7.setTop (mkF m 321 #[.val (.int p1), .val (.int p2), .val (.int p3), .val (.int cc), .val (.int kk), .val (.int al), .val (.int (own_in cc (48 : Int32) (57 : Int32))), .val (.int xx), .val (.int un), .val (.int ge), .val (.int su), .unset, .unset] [(.int (kk &&& (16 : Int32)))]))
                  by_cases hc321 : (kk &&& (16 : Int32)) = (0 : Int32)
                  · refine own_go (fun t k => XS.ifNo X7.here hx rfl (hb hby at_321) rfl ((if0 _ _).trans (teq hc321).2) k) ?_
                    exact J324_15 hA0 hA1 hA2 hA3 (by simp [hc313, hc321])
                  · refine own_go (fun t k => XS.ifYes X7.here hx rfl (pc0 := 321) (pc' := 337) rfl (hb hby at_321) rfl ((if0 _ _).trans (feq hc321).2) (by decide) (by decide) k) ?_
                    refine own_go (fun t k => XS.iconst X7.here hx rfl (hb hby at_337) k) ?_
                    refine own_go (fun t k => XS.goto X7.here hx rfl (pc0 := 338) (pc' := 342) rfl (hb hby at_338) (by decide) (by decide) k) ?_
                    exact J342_12 (1 : Int32) (by simp [own_e, hc313, hc321, hA0, hA1, hA2, hA3])
              have J298_17 : (¬ (¬ al = (0 : Int32) ∧ ¬ (kk &&& (1 : Int32)) = (0 : Int32))) → (¬ (¬ (own_in cc (48 : Int32) (57 : Int32)) = (0 : Int32) ∧ ¬ (kk &&& (2 : Int32)) = (0 : Int32))) → (¬ (¬ xx = (0 : Int32) ∧ ¬ (kk &&& (4 : Int32)) = (0 : Int32))) → own_Run p e below Φ (T7.setTop (mkF m 298 #[.val (.int p1), .val (.int p2), .val (.int p3), .val (.int cc), .val (.int kk), .val (.int al), .val (.int (own_in cc (48 : Int32) (57 : Int32))), .val (.int xx), .val (.int un), .val (.int ge), .val (.int su), .unset, .unset] [])) := by
                intro hA0 hA1 hA2
                show own_Run p e below Φ (T7.setTop (mkF m 298 #[.val (.int p1), .val (.int p2), .val (.int p3), .val (.int cc), .val (.int kk), .val (.int al), .val (.int (own_in cc (48 : Int32) (57 : Int32))), .val (.int xx), .val (.int un), .val (.int ge), .val (.int su), .unset, .unset] []))
                refine own_go (fun t k => XS.iload X7.here hx rfl (hb hby at_298) rfl  k) ?_
                by_cases hc300 : un = (0 : Int32)
                · refine own_go (fun t k => XS.ifYes X7.here hx rfl (pc0 := 300) (pc' := 311) rfl (hb hby at_300) rfl ((if0 _ _).trans (teq hc300).1) (by decide) (by decide) k) ?_
                  exact J311_16 hA0 hA1 hA2 (by simp [hc300])
                · refine own_go (fun t k => XS.ifNo X7.here hx rfl (hb hby at_300) rfl ((if0 _ _).trans (feq hc300).1) k) ?_
                  refine own_go (fun t k => XS.iload X7.here hx rfl (hb hby at_303) rfl  k) ?_
                  refine own_go (fun t k => XS.bipush X7.here hx rfl (hb hby at_305) k) ?_
                  refine own_go (fun t k => XS.iand X7.here hx rfl (hb hby at_307) rfl k) ?_
                  show own_Run p e below Φ (T7.setTop (mkF m 308 #[.val (.int p1), .val (.int p2), .val (.int p3), .val (.int cc), .val (.int kk), .val (.int al), .val (.int (own_in cc (48 : Int32) (57 : Int32))), .val (.int xx), .val (.int un), .val (.int ge), .val (.int su), .unset, .unset] [(.int (kk &&& (8 : Int32)))]))
                  by_cases hc308 : (kk &&& (8 : Int32)) = (0 : Int32)
                  · refine own_go (fun t k => XS.ifNo X7.here hx rfl (hb hby at_308) rfl ((if0 _ _).trans (teq hc308).2) k) ?_
                    exact J311_16 hA0 hA1 hA2 (by simp [hc300, hc308])
                  · refine own_go (fun t k => XS.ifYes X7.here hx rfl (pc0 := 308) (pc' := 337) rfl (hb hby at_308) rfl ((if0 _ _).trans (feq hc308).2) (by decide) (by decide) k) ?_
                    refine own_go (fun t k => XS.iconst X7.here hx rfl (hb hby at_337) k) ?_
                    refine own_go (fun t k => XS.goto X7.here hx rfl (pc0 := 338) (pc' := 342) rfl (hb hby at_338) (by decide) (by decide) k) ?_
                    exact J342_12 (1 : Int32) (by simp [own_e, hc300, hc308, hA0, hA1, hA2])
              have J286_18 : (¬ (¬ al = (0 : Int32) ∧ ¬ (kk &&& (1 : Int32)) = (0 : Int32))) → (¬ (¬ (own_in cc (48 : Int32) (57 : Int32)) = (0 : Int32) ∧ ¬ (kk &&& (2 : Int32)) = (0 : Int32))) → own_Run p e below Φ (T7.setTop (mkF m 286 #[.val (.int p1), .val (.int p2), .val (.int p3), .val (.int cc), .val (.int kk), .val (.int al), .val (.int (own_in cc (48 : Int32) (57 : Int32))), .val (.int xx), .val (.int un), .val (.int ge), .val (.int su), .unset, .unset] [])) := by
                intro hA0 hA1
                show own_Run p e below Φ (T7.setTop (mkF m 286 #[.val (.int p1), .val (.int p2), .val (.int p3), .val (.int cc), .val (.int kk), .val (.int al), .val (.int (own_in cc (48 : Int32) (57 : Int32))), .val (.int xx), .val (.int un), .val (.int ge), .val (.int su), .unset, .unset] []))
                refine own_go (fun t k => XS.iload X7.here hx rfl (hb hby at_286) rfl  k) ?_
                by_cases hc288 : xx = (0 : Int32)
                · refine own_go (fun t k => XS.ifYes X7.here hx rfl (pc0 := 288) (pc' := 298) rfl (hb hby at_288) rfl ((if0 _ _).trans (teq hc288).1) (by decide) (by decide) k) ?_
                  exact J298_17 hA0 hA1 (by simp [hc288])
                · refine own_go (fun t k => XS.ifNo X7.here hx rfl (hb hby at_288) rfl ((if0 _ _).trans (feq hc288).1) k) ?_
                  refine own_go (fun t k => XS.iload X7.here hx rfl (hb hby at_291) rfl  k) ?_
                  refine own_go (fun t k => XS.iconst X7.here hx rfl (hb hby at_293) k) ?_
                  refine own_go (fun t k => XS.iand X7.here hx rfl (hb hby at_294) rfl k) ?_
                  show own_Run p e below Φ (T7.setTop (mkF m 295 #[.val (.int p1), .val (.int p2), .val (.int p3), .val (.int cc), .val (.int kk), .val (.int al), .val (.int (own_in cc (48 : Int32) (57 : Int32))), .val (.int xx), .val (.int un), .val (.int ge), .val (.int su), .unset, .unset] [(.int (kk &&& (4 : Int32)))]))
                  by_cases hc295 : (kk &&& (4 : Int32)) = (0 : Int32)
                  · refine own_go (fun t k => XS.ifNo X7.here hx rfl (hb hby at_295) rfl ((if0 _ _).trans (teq hc295).2) k) ?_
                    exact J298_17 hA0 hA1 (by simp [hc288, hc295])
                  · refine own_go (fun t k => XS.ifYes X7.here hx rfl (pc0 := 295) (pc' := 337) rfl (hb hby at_295) rfl ((if0 _ _).trans (feq hc295).2) (by decide) (by decide) k) ?_
                    refine own_go (fun t k => XS.iconst X7.here hx rfl (hb hby at_337) k) ?_
                    refine own_go (fun t k => XS.goto X7.here hx rfl (pc0 := 338) (pc' := 342) rfl (hb hby at_338) (by decide) (by decide) k) ?_
                    exact J342_12 (1 : Int32) (by simp [own_e, hc288, hc295, hA0, hA1])
              have J274_19 : (¬ (¬ al = (0 : Int32) ∧ ¬ (kk &&& (1 : Int32)) = (0 : Int32))) → own_Run p e below Φ (T7.setTop (mkF m 274 #[.val (.int p1), .val (.int p2), .val (.int p3), .val (.int cc), .val (.int kk), .val (.int al), .val (.int (own_in cc (48 : Int32) (57 : Int32))), .val (.int xx), .val (.int un), .val (.int ge), .val (.int su), .unset, .unset] [])) := by
                intro hA0
                show own_Run p e below Φ (T7.setTop (mkF m 274 #[.val (.int p1), .val (.int p2), .val (.int p3), .val (.int cc), .val (.int kk), .val (.int al), .val (.int (own_in cc (48 : Int32) (57 : Int32))), .val (.int xx), .val (.int un), .val (.int ge), .val (.int su), .unset, .unset] []))
                refine own_go (fun t k => XS.iload X7.here hx rfl (hb hby at_274) rfl  k) ?_
                by_cases hc276 : (own_in cc (48 : Int32) (57 : Int32)) = (0 : Int32)
                · refine own_go (fun t k => XS.ifYes X7.here hx rfl (pc0 := 276) (pc' := 286) rfl (hb hby at_276) rfl ((if0 _ _).trans (teq hc276).1) (by decide) (by decide) k) ?_
                  exact J286_18 hA0 (by simp [hc276])
                · refine own_go (fun t k => XS.ifNo X7.here hx rfl (hb hby at_276) rfl ((if0 _ _).trans (feq hc276).1) k) ?_
                  refine own_go (fun t k => XS.iload X7.here hx rfl (hb hby at_279) rfl  k) ?_
                  refine own_go (fun t k => XS.iconst X7.here hx rfl (hb hby at_281) k) ?_
                  refine own_go (fun t k => XS.iand X7.here hx rfl (hb hby at_282) rfl k) ?_
                  show own_Run p e below Φ (T7.setTop (mkF m 283 #[.val (.int p1), .val (.int p2), .val (.int p3), .val (.int cc), .val (.int kk), .val (.int al), .val (.int (own_in cc (48 : Int32) (57 : Int32))), .val (.int xx), .val (.int un), .val (.int ge), .val (.int su), .unset, .unset] [(.int (kk &&& (2 : Int32)))]))
                  by_cases hc283 : (kk &&& (2 : Int32)) = (0 : Int32)
                  · refine own_go (fun t k => XS.ifNo X7.here hx rfl (hb hby at_283) rfl ((if0 _ _).trans (teq hc283).2) k) ?_
                    exact J286_18 hA0 (by simp [hc276, hc283])
                  · refine own_go (fun t k => XS.ifYes X7.here hx rfl (pc0 := 283) (pc' := 337) rfl (hb hby at_283) rfl ((if0 _ _).trans (feq hc283).2) (by decide) (by decide) k) ?_
                    refine own_go (fun t k => XS.iconst X7.here hx rfl (hb hby at_337) k) ?_
                    refine own_go (fun t k => XS.goto X7.here hx rfl (pc0 := 338) (pc' := 342) rfl (hb hby at_338) (by decide) (by decide) k) ?_
                    exact J342_12 (1 : Int32) (by simp [own_e, hc276, hc283, hA0])
              show own_Run p e below Φ (T7.setTop (mkF m 262 #[.val (.int p1), .val (.int p2), .val (.int p3), .val (.int cc), .val (.int kk), .val (.int al), .val (.int (own_in cc (48 : Int32) (57 : Int32))), .val (.int xx), .val (.int un), .val (.int ge), .val (.int su), .unset, .unset] []))
              refine own_go (fun t k => XS.iload X7.here hx rfl (hb hby at_262) rfl  k) ?_
              by_cases hc264 : al = (0 : Int32)
              · refine own_go (fun t k => XS.ifYes X7.here hx rfl (pc0 := 264) (pc' := 274) rfl (hb hby at_264) rfl ((if0 _ _).trans (teq hc264).1) (by decide) (by decide) k) ?_
                exact J274_19 (by simp [hc264])
              · refine own_go (fun t k => XS.ifNo X7.here hx rfl (hb hby at_264) rfl ((if0 _ _).trans (feq hc264).1) k) ?_
                refine own_go (fun t k => XS.iload X7.here hx rfl (hb hby at_267) rfl  k) ?_
                show own_Run p e below Φ (T7.setTop (mkF m 269 #[.val (.int p1), .val (.int p2), .val (.int p3), .val (.int cc), .val (.int kk), .val (.int al), .val (.int (own_in cc (48 : Int32) (57 : Int32))), .val (.int xx), .val (.int un), .val (.int ge), .val (.int su), .unset, .unset] [(.int kk)]))
                refine own_go (fun t k => XS.iconst X7.here hx rfl (hb hby at_269) k) ?_
                refine own_go (fun t k => XS.iand X7.here hx rfl (hb hby at_270) rfl k) ?_
                by_cases hc271 : (kk &&& (1 : Int32)) = (0 : Int32)
                · refine own_go (fun t k => XS.ifNo X7.here hx rfl (hb hby at_271) rfl ((if0 _ _).trans (teq hc271).2) k) ?_
                  exact J274_19 (by simp [hc264, hc271])
                · refine own_go (fun t k => XS.ifYes X7.here hx rfl (pc0 := 271) (pc' := 337) rfl (hb hby at_271) rfl ((if0 _ _).trans (feq hc271).2) (by decide) (by decide) k) ?_
                  refine own_go (fun t k => XS.iconst X7.here hx rfl (hb hby at_337) k) ?_
                  refine own_go (fun t k => XS.goto X7.here hx rfl (pc0 := 338) (pc' := 342) rfl (hb hby at_338) (by decide) (by decide) k) ?_
                  exact J342_12 (1 : Int32) (by simp [own_e, hc264, hc271, ])
            show own_Run p e below Φ (T7.setTop (mkF m 189 #[.val (.int p1), .val (.int p2), .val (.int p3), .val (.int cc), .val (.int kk), .val (.int al), .val (.int (own_in cc (48 : Int32) (57 : Int32))), .val (.int xx), .val (.int un), .val (.int ge), .unset, .unset, .unset] []))
            refine own_go (fun t k => XS.iloadN X7.here hx rfl (hb hby at_189) rfl  k) ?_
            show own_Run p e below Φ (T7.setTop (mkF m 190 #[.val (.int p1), .val (.int p2), .val (.int p3), .val (.int cc), .val (.int kk), .val (.int al), .val (.int (own_in cc (48 : Int32) (57 : Int32))), .val (.int xx), .val (.int un), .val (.int ge), .unset, .unset, .unset] [(.int cc)]))
            refine own_go (fun t k => XS.bipush X7.here hx rfl (hb hby at_190) k) ?_
            by_cases hc192 : cc = (33 : Int32)
            · refine own_go (fun t k => XS.icmpYes X7.here hx rfl (pc0 := 192) (pc' := 255) rfl (hb hby at_192) rfl (teq hc192).1 (by decide) (by decide) k) ?_
              refine own_go (fun t k => XS.iconst X7.here hx rfl (hb hby at_255) k) ?_
              refine own_go (fun t k => XS.goto X7.here hx rfl (pc0 := 256) (pc' := 260) rfl (hb hby at_256) (by decide) (by decide) k) ?_
              exact J260_11 (1 : Int32) (by simp [own_su, hc192])
            · refine own_go (fun t k => XS.icmpNo X7.here hx rfl (hb hby at_192) rfl (feq hc192).1 k) ?_
              refine own_go (fun t k => XS.iloadN X7.here hx rfl (hb hby at_195) rfl  k) ?_
              show own_Run p e below Φ (T7.setTop (mkF m 196 #[.val (.int p1), .val (.int p2), .val (.int p3), .val (.int cc), .val (.int kk), .val (.int al), .val (.int (own_in cc (48 : Int32) (57 : Int32))), .val (.int xx), .val (.int un), .val (.int ge), .unset, .unset, .unset] [(.int cc)]))
              refine own_go (fun t k => XS.bipush X7.here hx rfl (hb hby at_196) k) ?_
              by_cases hc198 : cc = (36 : Int32)
              · refine own_go (fun t k => XS.icmpYes X7.here hx rfl (pc0 := 198) (pc' := 255) rfl (hb hby at_198) rfl (teq hc198).1 (by decide) (by decide) k) ?_
                refine own_go (fun t k => XS.iconst X7.here hx rfl (hb hby at_255) k) ?_
                refine own_go (fun t k => XS.goto X7.here hx rfl (pc0 := 256) (pc' := 260) rfl (hb hby at_256) (by decide) (by decide) k) ?_
                exact J260_11 (1 : Int32) (by simp [own_su, hc192, hc198])
              · refine own_go (fun t k => XS.icmpNo X7.here hx rfl (hb hby at_198) rfl (feq hc198).1 k) ?_
                refine own_go (fun t k => XS.iloadN X7.here hx rfl (hb hby at_201) rfl  k) ?_
                show own_Run p e below Φ (T7.setTop (mkF m 202 #[.val (.int p1), .val (.int p2), .val (.int p3), .val (.int cc), .val (.int kk), .val (.int al), .val (.int (own_in cc (48 : Int32) (57 : Int32))), .val (.int xx), .val (.int un), .val (.int ge), .unset, .unset, .unset] [(.int cc)]))
                refine own_go (fun t k => XS.bipush X7.here hx rfl (hb hby at_202) k) ?_
                by_cases hc204 : cc = (38 : Int32)
                · refine own_go (fun t k => XS.icmpYes X7.here hx rfl (pc0 := 204) (pc' := 255) rfl (hb hby at_204) rfl (teq hc204).1 (by decide) (by decide) k) ?_
                  refine own_go (fun t k => XS.iconst X7.here hx rfl (hb hby at_255) k) ?_
                  refine own_go (fun t k => XS.goto X7.here hx rfl (pc0 := 256) (pc' := 260) rfl (hb hby at_256) (by decide) (by decide) k) ?_
                  exact J260_11 (1 : Int32) (by simp [own_su, hc192, hc198, hc204])
                · refine own_go (fun t k => XS.icmpNo X7.here hx rfl (hb hby at_204) rfl (feq hc204).1 k) ?_
                  refine own_go (fun t k => XS.iloadN X7.here hx rfl (hb hby at_207) rfl  k) ?_
                  show own_Run p e below Φ (T7.setTop (mkF m 208 #[.val (.int p1), .val (.int p2), .val (.int p3), .val (.int cc), .val (.int kk), .val (.int al), .val (.int (own_in cc (48 : Int32) (57 : Int32))), .val (.int xx), .val (.int un), .val (.int ge), .unset, .unset, .unset] [(.int cc)]))
                  refine own_go (fun t k => XS.bipush X7.here hx rfl (hb hby at_208) k) ?_
                  by_cases hc210 : cc = (39 : Int32)
                  · refine own_go (fun t k => XS.icmpYes X7.here hx rfl (pc0 := 210) (pc' := 255) rfl (hb hby at_210) rfl (teq hc210).1 (by decide) (by decide) k) ?_
                    refine own_go (fun t k => XS.iconst X7.here hx rfl (hb hby at_255) k) ?_
                    refine own_go (fun t k => XS.goto X7.here hx rfl (pc0 := 256) (pc' := 260) rfl (hb hby at_256) (by decide) (by decide) k) ?_
                    exact J260_11 (1 : Int32) (by simp [own_su, hc192, hc198, hc204, hc210])
                  · refine own_go (fun t k => XS.icmpNo X7.here hx rfl (hb hby at_210) rfl (feq hc210).1 k) ?_
                    refine own_go (fun t k => XS.iloadN X7.here hx rfl (hb hby at_213) rfl  k) ?_
                    show own_Run p e below Φ (T7.setTop (mkF m 214 #[.val (.int p1), .val (.int p2), .val (.int p3), .val (.int cc), .val (.int kk), .val (.int al), .val (.int (own_in cc (48 : Int32) (57 : Int32))), .val (.int xx), .val (.int un), .val (.int ge), .unset, .unset, .unset] [(.int cc)]))
                    refine own_go (fun t k => XS.bipush X7.here hx rfl (hb hby at_214) k) ?_
                    by_cases hc216 : cc = (40 : Int32)
                    · refine own_go (fun t k => XS.icmpYes X7.here hx rfl (pc0 := 216) (pc' := 255) rfl (hb hby at_216) rfl (teq hc216).1 (by decide) (by decide) k) ?_
                      refine own_go (fun t k => XS.iconst X7.here hx rfl (hb hby at_255) k) ?_
                      refine own_go (fun t k => XS.goto X7.here hx rfl (pc0 := 256) (pc' := 260) rfl (hb hby at_256) (by decide) (by decide) k) ?_
                      exact J260_11 (1 : Int32) (by simp [own_su, hc192, hc198, hc204, hc210, hc216])
                    · refine own_go (fun t k => XS.icmpNo X7.here hx rfl (hb hby at_216) rfl (feq hc216).1 k) ?_
                      refine own_go (fun t k => XS.iloadN X7.here hx rfl (hb hby at_219) rfl  k) ?_
                      show own_Run p e below Φ (T7.setTop (mkF m 220 #[.val (.int p1), .val (.int p2), .val (.int p3), .val (.int cc), .val (.int kk), .val (.int al), .val (.int (own_in cc (48 : Int32) (57 : Int32))), .val (.int xx), .val (.int un), .val (.int ge), .unset, .unset, .unset] [(.int cc)]))
                      refine own_go (fun t k => XS.bipush X7.here hx rfl (hb hby at_220) k) ?_
                      by_cases hc222 : cc = (41 : Int32)
                      · refine own_go (fun t k => XS.icmpYes X7.here hx rfl (pc0 := 222) (pc' := 255) rfl (hb hby at_222) rfl (teq hc222).1 (by decide) (by decide) k) ?_
                        refine own_go (fun t k => XS.iconst X7.here hx rfl (hb hby at_255) k) ?_
                        refine own_go (fun t k => XS.goto X7.here hx rfl (pc0 := 256) (pc' := 260) rfl (hb hby at_256) (by decide) (by decide) k) ?_
                        exact J260_11 (1 : Int32) (by simp [own_su, hc192, hc198, hc204, hc210, hc216, hc222])
                      · refine own_go (fun t k => XS.icmpNo X7.here hx rfl (hb hby at_222) rfl (feq hc222).1 k) ?_
                        refine own_go (fun t k => XS.iloadN X7.here hx rfl (hb hby at_225) rfl  k) ?_
                        show own_Run p e below Φ (T7.setTop (mkF m 226 #[.val (.int p1), .val (.int p2), .val (.int p3), .val (.int cc), .val (.int kk), .val (.int al), .val (.int (own_in cc (48 : Int32) (57 : Int32))), .val (.int xx), .val (.int un), .val (.int ge), .unset, .unset, .unset] [(.int cc)]))
                        refine own_go (fun t k => XS.bipush X7.here hx rfl (hb hby at_226) k) ?_
                        by_cases hc228 : cc = (42 : Int32)
                        · refine own_go (fun t k => XS.icmpYes X7.here hx rfl (pc0 := 228) (pc' := 255) rfl (hb hby at_228) rfl (teq hc228).1 (by decide) (by decide) k) ?_
                          refine own_go (fun t k => XS.iconst X7.here hx rfl (hb hby at_255) k) ?_
                          refine own_go (fun t k => XS.goto X7.here hx rfl (pc0 := 256) (pc' := 260) rfl (hb hby at_256) (by decide) (by decide) k) ?_
                          exact J260_11 (1 : Int32) (by simp [own_su, hc192, hc198, hc204, hc210, hc216, hc222, hc228])
                        · refine own_go (fun t k => XS.icmpNo X7.here hx rfl (hb hby at_228) rfl (feq hc228).1 k) ?_
                          refine own_go (fun t k => XS.iloadN X7.here hx rfl (hb hby at_231) rfl  k) ?_
                          show own_Run p e below Φ (T7.setTop (mkF m 232 #[.val (.int p1), .val (.int p2), .val (.int p3), .val (.int cc), .val (.int kk), .val (.int al), .val (.int (own_in cc (48 : Int32) (57 : Int32))), .val (.int xx), .val (.int un), .val (.int ge), .unset, .unset, .unset] [(.int cc)]))
                          refine own_go (fun t k => XS.bipush X7.here hx rfl (hb hby at_232) k) ?_
                          by_cases hc234 : cc = (43 : Int32)
                          · refine own_go (fun t k => XS.icmpYes X7.here hx rfl (pc0 := 234) (pc' := 255) rfl (hb hby at_234) rfl (teq hc234).1 (by decide) (by decide) k) ?_
                            refine own_go (fun t k => XS.iconst X7.here hx rfl (hb hby at_255) k) ?_
                            refine own_go (fun t k => XS.goto X7.here hx rfl (pc0 := 256) (pc' := 260) rfl (hb hby at_256) (by decide) (by decide) k) ?_
                            exact J260_11 (1 : Int32) (by simp [own_su, hc192, hc198, hc204, hc210, hc216, hc222, hc228, hc234])
                          · refine own_go (fun t k => XS.icmpNo X7.here hx rfl (hb hby at_234) rfl (feq hc234).1 k) ?_
                            refine own_go (fun t k => XS.iloadN X7.here hx rfl (hb hby at_237) rfl  k) ?_
                            show own_Run p e below Φ (T7.setTop (mkF m 238 #[.val (.int p1), .val (.int p2), .val (.int p3), .val (.int cc), .val (.int kk), .val (.int al), .val (.int (own_in cc (48 : Int32) (57 : Int32))), .val (.int xx), .val (.int un), .val (.int ge), .unset, .unset, .unset] [(.int cc)]))
                            refine own_go (fun t k => XS.bipush X7.here hx rfl (hb hby at_238) k) ?_
                            by_cases hc240 : cc = (44 : Int32)
                            · refine own_go (fun t k => XS.icmpYes X7.here hx rfl (pc0 := 240) (pc' := 255) rfl (hb hby at_240) rfl (teq hc240).1 (by decide) (by decide) k) ?_
                              refine own_go (fun t k => XS.iconst X7.here hx rfl (hb hby at_255) k) ?_
                              refine own_go (fun t k => XS.goto X7.here hx rfl (pc0 := 256) (pc' := 260) rfl (hb hby at_256) (by decide) (by decide) k) ?_
                              exact J260_11 (1 : Int32) (by simp [own_su, hc192, hc198, hc204, hc210, hc216, hc222, hc228, hc234, hc240])
                            · refine own_go (fun t k => XS.icmpNo X7.here hx rfl (hb hby at_240) rfl (feq hc240).1 k) ?_
                              refine own_go (fun t k => XS.iloadN X7.here hx rfl (hb hby at_243) rfl  k) ?_
                              show own_Run p e below Φ (T7.setTop (mkF m 244 #[.val (.int p1), .val (.int p2), .val (.int p3), .val (.int cc), .val (.int kk), .val (.int al), .val (.int (own_in cc (48 : Int32) (57 : Int32))), .val (.int xx), .val (.int un), .val (.int ge), .unset, .unset, .unset] [(.int cc)]))
                              refine own_go (fun t k => XS.bipush X7.here hx rfl (hb hby at_244) k) ?_
                              by_cases hc246 : cc = (59 : Int32)
                              · refine own_go (fun t k => XS.icmpYes X7.here hx rfl (pc0 := 246) (pc' := 255) rfl (hb hby at_246) rfl (teq hc246).1 (by decide) (by decide) k) ?_
                                refine own_go (fun t k => XS.iconst X7.here hx rfl (hb hby at_255) k) ?_
                                refine own_go (fun t k => XS.goto X7.here hx rfl (pc0 := 256) (pc' := 260) rfl (hb hby at_256) (by decide) (by decide) k) ?_
                                exact J260_11 (1 : Int32) (by simp [own_su, hc192, hc198, hc204, hc210, hc216, hc222, hc228, hc234, hc240, hc246])
                              · refine own_go (fun t k => XS.icmpNo X7.here hx rfl (hb hby at_246) rfl (feq hc246).1 k) ?_
                                refine own_go (fun t k => XS.iloadN X7.here hx rfl (hb hby at_249) rfl  k) ?_
                                show own_Run p e below Φ (T7.setTop (mkF m 250 #[.val (.int p1), .val (.int p2), .val (.int p3), .val (.int cc), .val (.int kk), .val (.int al), .val (.int (own_in cc (48 : Int32) (57 : Int32))), .val (.int xx), .val (.int un), .val (.int ge), .unset, .unset, .unset] [(.int cc)]))
                                refine own_go (fun t k => XS.bipush X7.here hx rfl (hb hby at_250) k) ?_
                                by_cases hc252 : cc = (61 : Int32)
                                · refine own_go (fun t k => XS.icmpNo X7.here hx rfl (hb hby at_252) rfl (teq hc252).2 k) ?_
                                  refine own_go (fun t k => XS.iconst X7.here hx rfl (hb hby at_255) k) ?_
                                  refine own_go (fun t k => XS.goto X7.here hx rfl (pc0 := 256) (pc' := 260) rfl (hb hby at_256) (by decide) (by decide) k) ?_
                                  exact J260_11 (1 : Int32) (by simp [own_su, hc192, hc198, hc204, hc210, hc216, hc222, hc228, hc234, hc240, hc246, hc252])
                                · refine own_go (fun t k => XS.icmpYes X7.here hx rfl (pc0 := 252) (pc' := 259) rfl (hb hby at_252) rfl (feq hc252).2 (by decide) (by decide) k) ?_
                                  refine own_go (fun t k => XS.iconst X7.here hx rfl (hb hby at_259) k) ?_
                                  exact J260_11 (0 : Int32) (by simp [own_su, hc192, hc198, hc204, hc210, hc216, hc222, hc228, hc234, hc240, hc246, hc252])
          show own_Run p e below Φ (T7.setTop (mkF m 140 #[.val (.int p1), .val (.int p2), .val (.int p3), .val (.int cc), .val (.int kk), .val (.int al), .val (.int (own_in cc (48 : Int32) (57 : Int32))), .val (.int xx), .val (.int un), .unset, .unset, .unset, .unset] []))
          refine own_go (fun t k => XS.iloadN X7.here hx rfl (hb hby at_140) rfl  k) ?_
          show own_Run p e below Φ (T7.setTop (mkF m 141 #[.val (.int p1), .val (.int p2), .val (.int p3), .val (.int cc), .val (.int kk), .val (.int al), .val (.int (own_in cc (48 : Int32) (57 : Int32))), .val (.int xx), .val (.int un), .unset, .unset, .unset, .unset] [(.int cc)]))
          refine own_go (fun t k => XS.bipush X7.here hx rfl (hb hby at_141) k) ?_
          by_cases hc143 : cc = (58 : Int32)
          · refine own_go (fun t k => XS.icmpYes X7.here hx rfl (pc0 := 143) (pc' := 182) rfl (hb hby at_143) rfl (teq hc143).1 (by decide) (by decide) k) ?_
            refine own_go (fun t k => XS.iconst X7.here hx rfl (hb hby at_182) k) ?_
            refine own_go (fun t k => XS.goto X7.here hx rfl (pc0 := 183) (pc' := 187) rfl (hb hby at_183) (by decide) (by decide) k) ?_
            exact J187_10 (1 : Int32) (by simp [own_ge, hc143])
          · refine own_go (fun t k => XS.icmpNo X7.here hx rfl (hb hby at_143) rfl (feq hc143).1 k) ?_
            refine own_go (fun t k => XS.iloadN X7.here hx rfl (hb hby at_146) rfl  k) ?_
            show own_Run p e below Φ (T7.setTop (mkF m 147 #[.val (.int p1), .val (.int p2), .val (.int p3), .val (.int cc), .val (.int kk), .val (.int al), .val (.int (own_in cc (48 : Int32) (57 : Int32))), .val (.int xx), .val (.int un), .unset, .unset, .unset, .unset] [(.int cc)]))
            refine own_go (fun t k => XS.bipush X7.here hx rfl (hb hby at_147) k) ?_
            by_cases hc149 : cc = (47 : Int32)
            · refine own_go (fun t k => XS.icmpYes X7.here hx rfl (pc0 := 149) (pc' := 182) rfl (hb hby at_149) rfl (teq hc149).1 (by decide) (by decide) k) ?_
              refine own_go (fun t k => XS.iconst X7.here hx rfl (hb hby at_182) k) ?_
              refine own_go (fun t k => XS.goto X7.here hx rfl (pc0 := 183) (pc' := 187) rfl (hb hby at_183) (by decide) (by decide) k) ?_
              exact J187_10 (1 : Int32) (by simp [own_ge, hc143, hc149])
            · refine own_go (fun t k => XS.icmpNo X7.here hx rfl (hb hby at_149) rfl (feq hc149).1 k) ?_
              refine own_go (fun t k => XS.iloadN X7.here hx rfl (hb hby at_152) rfl  k) ?_
              show own_Run p e below Φ (T7.setTop (mkF m 153 #[.val (.int p1), .val (.int p2), .val (.int p3), .val (.int cc), .val (.int kk), .val (.int al), .val (.int (own_in cc (48 : Int32) (57 : Int32))), .val (.int xx), .val (.int un), .unset, .unset, .unset, .unset] [(.int cc)]))
              refine own_go (fun t k => XS.bipush X7.here hx rfl (hb hby at_153) k) ?_
              by_cases hc155 : cc = (63 : Int32)
              · refine own_go (fun t k => XS.icmpYes X7.here hx rfl (pc0 := 155) (pc' := 182) rfl (hb hby at_155) rfl (teq hc155).1 (by decide) (by decide) k) ?_
                refine own_go (fun t k => XS.iconst X7.here hx rfl (hb hby at_182) k) ?_
                refine own_go (fun t k => XS.goto X7.here hx rfl (pc0 := 183) (pc' := 187) rfl (hb hby at_183) (by decide) (by decide) k) ?_
                exact J187_10 (1 : Int32) (by simp [own_ge, hc143, hc149, hc155])
              · refine own_go (fun t k => XS.icmpNo X7.here hx rfl (hb hby at_155) rfl (feq hc155).1 k) ?_
                refine own_go (fun t k => XS.iloadN X7.here hx rfl (hb hby at_158) rfl  k) ?_
                show own_Run p e below Φ (T7.setTop (mkF m 159 #[.val (.int p1), .val (.int p2), .val (.int p3), .val (.int cc), .val (.int kk), .val (.int al), .val (.int (own_in cc (48 : Int32) (57 : Int32))), .val (.int xx), .val (.int un), .unset, .unset, .unset, .unset] [(.int cc)]))
                refine own_go (fun t k => XS.bipush X7.here hx rfl (hb hby at_159) k) ?_
                by_cases hc161 : cc = (35 : Int32)
                · refine own_go (fun t k => XS.icmpYes X7.here hx rfl (pc0 := 161) (pc' := 182) rfl (hb hby at_161) rfl (teq hc161).1 (by decide) (by decide) k) ?_
                  refine own_go (fun t k => XS.iconst X7.here hx rfl (hb hby at_182) k) ?_
                  refine own_go (fun t k => XS.goto X7.here hx rfl (pc0 := 183) (pc' := 187) rfl (hb hby at_183) (by decide) (by decide) k) ?_
                  exact J187_10 (1 : Int32) (by simp [own_ge, hc143, hc149, hc155, hc161])
                · refine own_go (fun t k => XS.icmpNo X7.here hx rfl (hb hby at_161) rfl (feq hc161).1 k) ?_
                  refine own_go (fun t k => XS.iloadN X7.here hx rfl (hb hby at_164) rfl  k) ?_
                  show own_Run p e below Φ (T7.setTop (mkF m 165 #[.val (.int p1), .val (.int p2), .val (.int p3), .val (.int cc), .val (.int kk), .val (.int al), .val (.int (own_in cc (48 : Int32) (57 : Int32))), .val (.int xx), .val (.int un), .unset, .unset, .unset, .unset] [(.int cc)]))
                  refine own_go (fun t k => XS.bipush X7.here hx rfl (hb hby at_165) k) ?_
                  by_cases hc167 : cc = (91 : Int32)
                  · refine own_go (fun t k => XS.icmpYes X7.here hx rfl (pc0 := 167) (pc' := 182) rfl (hb hby at_167) rfl (teq hc167).1 (by decide) (by decide) k) ?_
                    refine own_go (fun t k => XS.iconst X7.here hx rfl (hb hby at_182) k) ?_
                    refine own_go (fun t k => XS.goto X7.here hx rfl (pc0 := 183) (pc' := 187) rfl (hb hby at_183) (by decide) (by decide) k) ?_
                    exact J187_10 (1 : Int32) (by simp [own_ge, hc143, hc149, hc155, hc161, hc167])
                  · refine own_go (fun t k => XS.icmpNo X7.here hx rfl (hb hby at_167) rfl (feq hc167).1 k) ?_
                    refine own_go (fun t k => XS.iloadN X7.here hx rfl (hb hby at_170) rfl  k) ?_
                    show own_Run p e below Φ (T7.setTop (mkF m 171 #[.val (.int p1), .val (.int p2), .val (.int p3), .val (.int cc), .val (.int kk), .val (.int al), .val (.int (own_in cc (48 : Int32) (57 : Int32))), .val (.int xx), .val (.int un), .unset, .unset, .unset, .unset] [(.int cc)]))
                    refine own_go (fun t k => XS.bipush X7.here hx rfl (hb hby at_171) k) ?_
                    by_cases hc173 : cc = (93 : Int32)
                    · refine own_go (fun t k => XS.icmpYes X7.here hx rfl (pc0 := 173) (pc' := 182) rfl (hb hby at_173) rfl (teq hc173).1 (by decide) (by decide) k) ?_
                      refine own_go (fun t k => XS.iconst X7.here hx rfl (hb hby at_182) k) ?_
                      refine own_go (fun t k => XS.goto X7.here hx rfl (pc0 := 183) (pc' := 187) rfl (hb hby at_183) (by decide) (by decide) k) ?_
                      exact J187_10 (1 : Int32) (by simp [own_ge, hc143, hc149, hc155, hc161, hc167, hc173])
                    · refine own_go (fun t k => XS.icmpNo X7.here hx rfl (hb hby at_173) rfl (feq hc173).1 k) ?_
                      refine own_go (fun t k => XS.iloadN X7.here hx rfl (hb hby at_176) rfl  k) ?_
                      show own_Run p e below Φ (T7.setTop (mkF m 177 #[.val (.int p1), .val (.int p2), .val (.int p3), .val (.int cc), .val (.int kk), .val (.int al), .val (.int (own_in cc (48 : Int32) (57 : Int32))), .val (.int xx), .val (.int un), .unset, .unset, .unset, .unset] [(.int cc)]))
                      refine own_go (fun t k => XS.bipush X7.here hx rfl (hb hby at_177) k) ?_
                      by_cases hc179 : cc = (64 : Int32)
                      · refine own_go (fun t k => XS.icmpNo X7.here hx rfl (hb hby at_179) rfl (teq hc179).2 k) ?_
                        refine own_go (fun t k => XS.iconst X7.here hx rfl (hb hby at_182) k) ?_
                        refine own_go (fun t k => XS.goto X7.here hx rfl (pc0 := 183) (pc' := 187) rfl (hb hby at_183) (by decide) (by decide) k) ?_
                        exact J187_10 (1 : Int32) (by simp [own_ge, hc143, hc149, hc155, hc161, hc167, hc173, hc179])
                      · refine own_go (fun t k => XS.icmpYes X7.here hx rfl (pc0 := 179) (pc' := 186) rfl (hb hby at_179) rfl (feq hc179).2 (by decide) (by decide) k) ?_
                        refine own_go (fun t k => XS.iconst X7.here hx rfl (hb hby at_186) k) ?_
                        exact J187_10 (0 : Int32) (by simp [own_ge, hc143, hc149, hc155, hc161, hc167, hc173, hc179])
        show own_Run p e below Φ (T7.setTop (mkF m 99 #[.val (.int p1), .val (.int p2), .val (.int p3), .val (.int cc), .val (.int kk), .val (.int al), .val (.int (own_in cc (48 : Int32) (57 : Int32))), .val (.int xx), .unset, .unset, .unset, .unset, .unset] []))
        refine own_go (fun t k => XS.iload X7.here hx rfl (hb hby at_99) rfl  k) ?_
        show own_Run p e below Φ (T7.setTop (mkF m 101 #[.val (.int p1), .val (.int p2), .val (.int p3), .val (.int cc), .val (.int kk), .val (.int al), .val (.int (own_in cc (48 : Int32) (57 : Int32))), .val (.int xx), .unset, .unset, .unset, .unset, .unset] [(.int al)]))
        by_cases hc101 : al = (0 : Int32)
        · refine own_go (fun t k => XS.ifNo X7.here hx rfl (hb hby at_101) rfl ((if0 _ _).trans (teq hc101).2) k) ?_
          refine own_go (fun t k => XS.iload X7.here hx rfl (hb hby at_104) rfl  k) ?_
          by_cases hc106 : (own_in cc (48 : Int32) (57 : Int32)) = (0 : Int32)
          · refine own_go (fun t k => XS.ifNo X7.here hx rfl (hb hby at_106) rfl ((if0 _ _).trans (teq hc106).2) k) ?_
            refine own_go (fun t k => XS.iloadN X7.here hx rfl (hb hby at_109) rfl  k) ?_
            refine own_go (fun t k => XS.bipush X7.here hx rfl (hb hby at_110) k) ?_
            show own_Run p e below Φ (T7.setTop (mkF m 112 #[.val (.int p1), .val (.int p2), .val (.int p3), .val (.int cc), .val (.int kk), .val (.int al), .val (.int (own_in cc (48 : Int32) (57 : Int32))), .val (.int xx), .unset, .unset, .unset, .unset, .unset] [(.int (45 : Int32)), (.int cc)]))
            by_cases hc112 : cc = (45 : Int32)
            · refine own_go (fun t k => XS.icmpYes X7.here hx rfl (pc0 := 112) (pc' := 133) rfl (hb hby at_112) rfl (teq hc112).1 (by decide) (by decide) k) ?_
              refine own_go (fun t k => XS.iconst X7.here hx rfl (hb hby at_133) k) ?_
              refine own_go (fun t k => XS.goto X7.here hx rfl (pc0 := 134) (pc' := 138) rfl (hb hby at_134) (by decide) (by decide) k) ?_
              exact J138_9 (1 : Int32) (by simp [own_un, hc101, hc106, hc112])
            · refine own_go (fun t k => XS.icmpNo X7.here hx rfl (hb hby at_112) rfl (feq hc112).1 k) ?_
              refine own_go (fun t k => XS.iloadN X7.here hx rfl (hb hby at_115) rfl  k) ?_
              refine own_go (fun t k => XS.bipush X7.here hx rfl (hb hby at_116) k) ?_
              show own_Run p e below Φ (T7.setTop (mkF m 118 #[.val (.int p1), .val (.int p2), .val (.int p3), .val (.int cc), .val (.int kk), .val (.int al), .val (.int (own_in cc (48 : Int32) (57 : Int32))), .val (.int xx), .unset, .unset, .unset, .unset, .unset] [(.int (46 : Int32)), (.int cc)]))
              by_cases hc118 : cc = (46 : Int32)
              · refine own_go (fun t k => XS.icmpYes X7.here hx rfl (pc0 := 118) (pc' := 133) rfl (hb hby at_118) rfl (teq hc118).1 (by decide) (by decide) k) ?_
                refine own_go (fun t k => XS.iconst X7.here hx rfl (hb hby at_133) k) ?_
                refine own_go (fun t k => XS.goto X7.here hx rfl (pc0 := 134) (pc' := 138) rfl (hb hby at_134) (by decide) (by decide) k) ?_
                exact J138_9 (1 : Int32) (by simp [own_un, hc101, hc106, hc112, hc118])
              · refine own_go (fun t k => XS.icmpNo X7.here hx rfl (hb hby at_118) rfl (feq hc118).1 k) ?_
                refine own_go (fun t k => XS.iloadN X7.here hx rfl (hb hby at_121) rfl  k) ?_
                refine own_go (fun t k => XS.bipush X7.here hx rfl (hb hby at_122) k) ?_
                show own_Run p e below Φ (T7.setTop (mkF m 124 #[.val (.int p1), .val (.int p2), .val (.int p3), .val (.int cc), .val (.int kk), .val (.int al), .val (.int (own_in cc (48 : Int32) (57 : Int32))), .val (.int xx), .unset, .unset, .unset, .unset, .unset] [(.int (95 : Int32)), (.int cc)]))
                by_cases hc124 : cc = (95 : Int32)
                · refine own_go (fun t k => XS.icmpYes X7.here hx rfl (pc0 := 124) (pc' := 133) rfl (hb hby at_124) rfl (teq hc124).1 (by decide) (by decide) k) ?_
                  refine own_go (fun t k => XS.iconst X7.here hx rfl (hb hby at_133) k) ?_
                  refine own_go (fun t k => XS.goto X7.here hx rfl (pc0 := 134) (pc' := 138) rfl (hb hby at_134) (by decide) (by decide) k) ?_
                  exact J138_9 (1 : Int32) (by simp [own_un, hc101, hc106, hc112, hc118, hc124])
                · refine own_go (fun t k => XS.icmpNo X7.here hx rfl (hb hby at_124) rfl (feq hc124).1 k) ?_
                  refine own_go (fun t k => XS.iloadN X7.here hx rfl (hb hby at_127) rfl  k) ?_
                  refine own_go (fun t k => XS.bipush X7.here hx rfl (hb hby at_128) k) ?_
                  show own_Run p e below Φ (T7.setTop (mkF m 130 #[.val (.int p1), .val (.int p2), .val (.int p3), .val (.int cc), .val (.int kk), .val (.int al), .val (.int (own_in cc (48 : Int32) (57 : Int32))), .val (.int xx), .unset, .unset, .unset, .unset, .unset] [(.int (126 : Int32)), (.int cc)]))
                  by_cases hc130 : cc = (126 : Int32)
                  · refine own_go (fun t k => XS.icmpNo X7.here hx rfl (hb hby at_130) rfl (teq hc130).2 k) ?_
                    refine own_go (fun t k => XS.iconst X7.here hx rfl (hb hby at_133) k) ?_
                    refine own_go (fun t k => XS.goto X7.here hx rfl (pc0 := 134) (pc' := 138) rfl (hb hby at_134) (by decide) (by decide) k) ?_
                    exact J138_9 (1 : Int32) (by simp [own_un, hc101, hc106, hc112, hc118, hc124, hc130])
                  · refine own_go (fun t k => XS.icmpYes X7.here hx rfl (pc0 := 130) (pc' := 137) rfl (hb hby at_130) rfl (feq hc130).2 (by decide) (by decide) k) ?_
                    refine own_go (fun t k => XS.iconst X7.here hx rfl (hb hby at_137) k) ?_
                    exact J138_9 (0 : Int32) (by simp [own_un, hc101, hc106, hc112, hc118, hc124, hc130])
          · refine own_go (fun t k => XS.ifYes X7.here hx rfl (pc0 := 106) (pc' := 133) rfl (hb hby at_106) rfl ((if0 _ _).trans (feq hc106).2) (by decide) (by decide) k) ?_
            refine own_go (fun t k => XS.iconst X7.here hx rfl (hb hby at_133) k) ?_
            show own_Run p e below Φ (T7.setTop (mkF m 134 #[.val (.int p1), .val (.int p2), .val (.int p3), .val (.int cc), .val (.int kk), .val (.int al), .val (.int (own_in cc (48 : Int32) (57 : Int32))), .val (.int xx), .unset, .unset, .unset, .unset, .unset] [(.int (1 : Int32))]))
            refine own_go (fun t k => XS.goto X7.here hx rfl (pc0 := 134) (pc' := 138) rfl (hb hby at_134) (by decide) (by decide) k) ?_
            exact J138_9 (1 : Int32) (by simp [own_un, hc101, hc106])
        · refine own_go (fun t k => XS.ifYes X7.here hx rfl (pc0 := 101) (pc' := 133) rfl (hb hby at_101) rfl ((if0 _ _).trans (feq hc101).2) (by decide) (by decide) k) ?_
          refine own_go (fun t k => XS.iconst X7.here hx rfl (hb hby at_133) k) ?_
          refine own_go (fun t k => XS.goto X7.here hx rfl (pc0 := 134) (pc' := 138) rfl (hb hby at_134) (by decide) (by decide) k) ?_
          exact J138_9 (1 : Int32) (by simp [own_un, hc101])
      show own_Run p e below Φ (T5.setTop (mkF m 65 #[.val (.int p1), .val (.int p2), .val (.int p3), .val (.int cc), .val (.int kk), .val (.int al), .val (.int (own_in cc (48 : Int32) (57 : Int32))), .unset, .unset, .unset, .unset, .unset, .unset] []))
      refine own_go (fun t k => XS.iload X5.here hx rfl (hb hby at_65) rfl  k) ?_
      by_cases hc67 : (own_in cc (48 : Int32) (57 : Int32)) = (0 : Int32)
      · refine own_go (fun t k => XS.ifNo X5.here hx rfl (hb hby at_67) rfl ((if0 _ _).trans (teq hc67).2) k) ?_
        refine own_go (fun t k => XS.iloadN X5.here hx rfl (hb hby at_70) rfl  k) ?_
        show own_Run p e below Φ (T5.setTop (mkF m 71 #[.val (.int p1), .val (.int p2), .val (.int p3), .val (.int cc), .val (.int kk), .val (.int al), .val (.int (own_in cc (48 : Int32) (57 : Int32))), .unset, .unset, .unset, .unset, .unset, .unset] [(.int cc)]))
        refine own_go (fun t k => XS.bipush X5.here hx rfl (hb hby at_71) k) ?_
        refine own_go (fun t k => XS.bipush X5.here hx rfl (hb hby at_73) k) ?_
        refine own_callS X5 hx hZ (y := (⟨"com/example/endereco/endereco/CharClassIsInPinLaw", "in", "(CCC)Z"⟩ : MethodName)) (W := 0) (argsL := [(.int cc), (.int (65 : Int32)), (.int (70 : Int32))]) (rest := []) hown (hw _ (List.mem_of_getElem? (i := 1) rfl)) (hw _ (List.mem_of_getElem? (i := 2) rfl)) (hw _ (List.mem_of_getElem? (i := 3) rfl)) (hw _ (List.mem_of_getElem? (i := 4) rfl)) (by decide) (own_bk (rm_in l Z a0 hw cc (65 : Int32) (70 : Int32) h3 n0 ) hZ (hw _ (List.mem_of_getElem? (i := 4) rfl)) (hw _ (List.mem_of_getElem? (i := 3) rfl)) (by decide) (by decide)) e5 (g := (mkF m 75 #[.val (.int p1), .val (.int p2), .val (.int p3), .val (.int cc), .val (.int kk), .val (.int al), .val (.int (own_in cc (48 : Int32) (57 : Int32))), .unset, .unset, .unset, .unset, .unset, .unset] [(.int (70 : Int32)), (.int (65 : Int32)), (.int cc)])) rfl (by rw [hml]; rfl) (lenOf pd_0 rfl) rfl (by show 2 * 0 + _ ≤ _; exact Nat.le_of_eq rfl) (hb hby at_75) (own_le (Nat.add_le_add_right hc3 0) (by decide)) (own_le (Nat.add_le_add_right hs3 0) (by decide)) (fun v20 T20 h20 L20 X20 e20 q20 => ?_)
        obtain ⟨rfl, M20, s20⟩ := q20
        replace e20 : T20.heap = h3 := e20.trans s20
        have N20 := Fr.app N5 M20
        by_cases hc78 : (own_in cc (65 : Int32) (70 : Int32)) = (0 : Int32)
        · refine own_go (fun t k => XS.ifNo X20.here hx rfl (hb hby at_78) rfl ((if0 _ _).trans (teq hc78).2) k) ?_
          refine own_go (fun t k => XS.iloadN X20.here hx rfl (hb hby at_81) rfl  k) ?_
          show own_Run p e below Φ (T20.setTop (mkF m 82 #[.val (.int p1), .val (.int p2), .val (.int p3), .val (.int cc), .val (.int kk), .val (.int al), .val (.int (own_in cc (48 : Int32) (57 : Int32))), .unset, .unset, .unset, .unset, .unset, .unset] [(.int cc)]))
          refine own_go (fun t k => XS.bipush X20.here hx rfl (hb hby at_82) k) ?_
          refine own_go (fun t k => XS.bipush X20.here hx rfl (hb hby at_84) k) ?_
          refine own_callS X20 hx hZ (y := (⟨"com/example/endereco/endereco/CharClassIsInPinLaw", "in", "(CCC)Z"⟩ : MethodName)) (W := 0) (argsL := [(.int cc), (.int (97 : Int32)), (.int (102 : Int32))]) (rest := []) hown (hw _ (List.mem_of_getElem? (i := 1) rfl)) (hw _ (List.mem_of_getElem? (i := 2) rfl)) (hw _ (List.mem_of_getElem? (i := 3) rfl)) (hw _ (List.mem_of_getElem? (i := 4) rfl)) (by decide) (own_bk (rm_in l Z a0 hw cc (97 : Int32) (102 : Int32) h3 n0 ) hZ (hw _ (List.mem_of_getElem? (i := 4) rfl)) (hw _ (List.mem_of_getElem? (i := 3) rfl)) (by decide) (by decide)) e20 (g := (mkF m 86 #[.val (.int p1), .val (.int p2), .val (.int p3), .val (.int cc), .val (.int kk), .val (.int al), .val (.int (own_in cc (48 : Int32) (57 : Int32))), .unset, .unset, .unset, .unset, .unset, .unset] [(.int (102 : Int32)), (.int (97 : Int32)), (.int cc)])) rfl (by rw [hml]; rfl) (lenOf pd_0 rfl) rfl (by show 2 * 0 + _ ≤ _; exact Nat.le_of_eq rfl) (hb hby at_86) (own_le (Nat.add_le_add_right (Nat.add_le_add_right hc3 0) 0) (by decide)) (own_le (Nat.add_le_add_right (Nat.add_le_add_right hs3 0) 0) (by decide)) (fun v21 T21 h21 L21 X21 e21 q21 => ?_)
          obtain ⟨rfl, M21, s21⟩ := q21
          replace e21 : T21.heap = h3 := e21.trans s21
          have N21 := Fr.app N20 M21
          by_cases hc89 : (own_in cc (97 : Int32) (102 : Int32)) = (0 : Int32)
          · refine own_go (fun t k => XS.ifYes X21.here hx rfl (pc0 := 89) (pc' := 96) rfl (hb hby at_89) rfl ((if0 _ _).trans (teq hc89).1) (by decide) (by decide) k) ?_
            refine own_go (fun t k => XS.iconst X21.here hx rfl (hb hby at_96) k) ?_
            exact J97_6 (0 : Int32) T21 h3 _ _ _ X21 e21 N21 (Nat.add_le_add_right (Nat.add_le_add_right (Nat.add_le_add_right hc3 0) 0) 0) (Nat.add_le_add_right (Nat.add_le_add_right (Nat.add_le_add_right hs3 0) 0) 0) F4 (by simp [own_hx, hc67, hc78, hc89])
          · refine own_go (fun t k => XS.ifNo X21.here hx rfl (hb hby at_89) rfl ((if0 _ _).trans (feq hc89).1) k) ?_
            show own_Run p e below Φ (T21.setTop (mkF m 92 #[.val (.int p1), .val (.int p2), .val (.int p3), .val (.int cc), .val (.int kk), .val (.int al), .val (.int (own_in cc (48 : Int32) (57 : Int32))), .unset, .unset, .unset, .unset, .unset, .unset] []))
            refine own_go (fun t k => XS.iconst X21.here hx rfl (hb hby at_92) k) ?_
            refine own_go (fun t k => XS.goto X21.here hx rfl (pc0 := 93) (pc' := 97) rfl (hb hby at_93) (by decide) (by decide) k) ?_
            exact J97_6 (1 : Int32) T21 h3 _ _ _ X21 e21 N21 (Nat.add_le_add_right (Nat.add_le_add_right (Nat.add_le_add_right hc3 0) 0) 0) (Nat.add_le_add_right (Nat.add_le_add_right (Nat.add_le_add_right hs3 0) 0) 0) F4 (by simp [own_hx, hc67, hc78, hc89])
        · refine own_go (fun t k => XS.ifYes X20.here hx rfl (pc0 := 78) (pc' := 92) rfl (hb hby at_78) rfl ((if0 _ _).trans (feq hc78).2) (by decide) (by decide) k) ?_
          refine own_go (fun t k => XS.iconst X20.here hx rfl (hb hby at_92) k) ?_
          refine own_go (fun t k => XS.goto X20.here hx rfl (pc0 := 93) (pc' := 97) rfl (hb hby at_93) (by decide) (by decide) k) ?_
          exact J97_6 (1 : Int32) T20 h3 _ _ _ X20 e20 N20 (Nat.add_le_add_right (Nat.add_le_add_right hc3 0) 0) (Nat.add_le_add_right (Nat.add_le_add_right hs3 0) 0) F4 (by simp [own_hx, hc67, hc78])
      · refine own_go (fun t k => XS.ifYes X5.here hx rfl (pc0 := 67) (pc' := 92) rfl (hb hby at_67) rfl ((if0 _ _).trans (feq hc67).2) (by decide) (by decide) k) ?_
        refine own_go (fun t k => XS.iconst X5.here hx rfl (hb hby at_92) k) ?_
        show own_Run p e below Φ (T5.setTop (mkF m 93 #[.val (.int p1), .val (.int p2), .val (.int p3), .val (.int cc), .val (.int kk), .val (.int al), .val (.int (own_in cc (48 : Int32) (57 : Int32))), .unset, .unset, .unset, .unset, .unset, .unset] [(.int (1 : Int32))]))
        refine own_go (fun t k => XS.goto X5.here hx rfl (pc0 := 93) (pc' := 97) rfl (hb hby at_93) (by decide) (by decide) k) ?_
        exact J97_6 (1 : Int32) T5 h3 _ _ _ X5 e5 N5 (Nat.add_le_add_right hc3 0) (Nat.add_le_add_right hs3 0) F4 (by simp [own_hx, hc67])
    show own_Run p e below Φ (s₁.setTop (mkF m 26 #[.val (.int p1), .val (.int p2), .val (.int p3), .val (.int cc), .val (.int kk), .unset, .unset, .unset, .unset, .unset, .unset, .unset, .unset] []))
    refine own_go (fun t k => XS.iloadN X0.here hx rfl (hb hby at_26) rfl  k) ?_
    refine own_go (fun t k => XS.bipush X0.here hx rfl (hb hby at_27) k) ?_
    refine own_go (fun t k => XS.bipush X0.here hx rfl (hb hby at_29) k) ?_
    refine own_callS X0 hx hZ (y := (⟨"com/example/endereco/endereco/CharClassIsInPinLaw", "in", "(CCC)Z"⟩ : MethodName)) (W := 0) (argsL := [(.int cc), (.int (65 : Int32)), (.int (90 : Int32))]) (rest := []) hown (hw _ (List.mem_of_getElem? (i := 1) rfl)) (hw _ (List.mem_of_getElem? (i := 2) rfl)) (hw _ (List.mem_of_getElem? (i := 3) rfl)) (hw _ (List.mem_of_getElem? (i := 4) rfl)) (by decide) (own_bk (rm_in l Z a0 hw cc (65 : Int32) (90 : Int32) h0 n0 ) hZ (hw _ (List.mem_of_getElem? (i := 4) rfl)) (hw _ (List.mem_of_getElem? (i := 3) rfl)) (by decide) (by decide)) e0 (g := (mkF m 31 #[.val (.int p1), .val (.int p2), .val (.int p3), .val (.int cc), .val (.int kk), .unset, .unset, .unset, .unset, .unset, .unset, .unset, .unset] [(.int (90 : Int32)), (.int (65 : Int32)), (.int cc)])) rfl (by rw [hml]; rfl) (lenOf pd_0 rfl) rfl (by show 2 * 0 + _ ≤ _; exact Nat.le_of_eq rfl) (hb hby at_31) (by decide) (by decide) (fun v22 T22 h22 L22 X22 e22 q22 => ?_)
    obtain ⟨rfl, M22, s22⟩ := q22
    replace e22 : T22.heap = h0 := e22.trans s22
    have N22 := Fr.app N0 M22
    by_cases hc34 : (own_in cc (65 : Int32) (90 : Int32)) = (0 : Int32)
    · refine own_go (fun t k => XS.ifNo X22.here hx rfl (hb hby at_34) rfl ((if0 _ _).trans (teq hc34).2) k) ?_
      show own_Run p e below Φ (T22.setTop (mkF m 37 #[.val (.int p1), .val (.int p2), .val (.int p3), .val (.int cc), .val (.int kk), .unset, .unset, .unset, .unset, .unset, .unset, .unset, .unset] []))
      refine own_go (fun t k => XS.iloadN X22.here hx rfl (hb hby at_37) rfl  k) ?_
      refine own_go (fun t k => XS.bipush X22.here hx rfl (hb hby at_38) k) ?_
      refine own_go (fun t k => XS.bipush X22.here hx rfl (hb hby at_40) k) ?_
      refine own_callS X22 hx hZ (y := (⟨"com/example/endereco/endereco/CharClassIsInPinLaw", "in", "(CCC)Z"⟩ : MethodName)) (W := 0) (argsL := [(.int cc), (.int (97 : Int32)), (.int (122 : Int32))]) (rest := []) hown (hw _ (List.mem_of_getElem? (i := 1) rfl)) (hw _ (List.mem_of_getElem? (i := 2) rfl)) (hw _ (List.mem_of_getElem? (i := 3) rfl)) (hw _ (List.mem_of_getElem? (i := 4) rfl)) (by decide) (own_bk (rm_in l Z a0 hw cc (97 : Int32) (122 : Int32) h0 n0 ) hZ (hw _ (List.mem_of_getElem? (i := 4) rfl)) (hw _ (List.mem_of_getElem? (i := 3) rfl)) (by decide) (by decide)) e22 (g := (mkF m 42 #[.val (.int p1), .val (.int p2), .val (.int p3), .val (.int cc), .val (.int kk), .unset, .unset, .unset, .unset, .unset, .unset, .unset, .unset] [(.int (122 : Int32)), (.int (97 : Int32)), (.int cc)])) rfl (by rw [hml]; rfl) (lenOf pd_0 rfl) rfl (by show 2 * 0 + _ ≤ _; exact Nat.le_of_eq rfl) (hb hby at_42) (by decide) (by decide) (fun v23 T23 h23 L23 X23 e23 q23 => ?_)
      obtain ⟨rfl, M23, s23⟩ := q23
      replace e23 : T23.heap = h0 := e23.trans s23
      have N23 := Fr.app N22 M23
      by_cases hc45 : (own_in cc (97 : Int32) (122 : Int32)) = (0 : Int32)
      · refine own_go (fun t k => XS.ifYes X23.here hx rfl (pc0 := 45) (pc' := 52) rfl (hb hby at_45) rfl ((if0 _ _).trans (teq hc45).1) (by decide) (by decide) k) ?_
        show own_Run p e below Φ (T23.setTop (mkF m 52 #[.val (.int p1), .val (.int p2), .val (.int p3), .val (.int cc), .val (.int kk), .unset, .unset, .unset, .unset, .unset, .unset, .unset, .unset] []))
        refine own_go (fun t k => XS.iconst X23.here hx rfl (hb hby at_52) k) ?_
        exact J53_2 (0 : Int32) T23 h0 _ _ _ X23 e23 N23 (by decide) (by decide) O0 (by simp [own_al, hc34, hc45])
      · refine own_go (fun t k => XS.ifNo X23.here hx rfl (hb hby at_45) rfl ((if0 _ _).trans (feq hc45).1) k) ?_
        refine own_go (fun t k => XS.iconst X23.here hx rfl (hb hby at_48) k) ?_
        refine own_go (fun t k => XS.goto X23.here hx rfl (pc0 := 49) (pc' := 53) rfl (hb hby at_49) (by decide) (by decide) k) ?_
        exact J53_2 (1 : Int32) T23 h0 _ _ _ X23 e23 N23 (by decide) (by decide) O0 (by simp [own_al, hc34, hc45])
    · refine own_go (fun t k => XS.ifYes X22.here hx rfl (pc0 := 34) (pc' := 48) rfl (hb hby at_34) rfl ((if0 _ _).trans (feq hc34).2) (by decide) (by decide) k) ?_
      refine own_go (fun t k => XS.iconst X22.here hx rfl (hb hby at_48) k) ?_
      refine own_go (fun t k => XS.goto X22.here hx rfl (pc0 := 49) (pc' := 53) rfl (hb hby at_49) (by decide) (by decide) k) ?_
      exact J53_2 (1 : Int32) T22 h0 _ _ _ X22 e22 N22 (by decide) (by decide) O0 (by simp [own_al, hc34])
  show own_Run p e below Φ (s₁.setTop (mkF m 0 #[.val (.int p1), .val (.int p2), .val (.int p3), .unset, .unset, .unset, .unset, .unset, .unset, .unset, .unset, .unset, .unset] []))
  refine own_go (fun t k => XS.iloadN X0.here hx rfl (hb hby at_0) rfl  k) ?_
  show own_Run p e below Φ (s₁.setTop (mkF m 1 #[.val (.int p1), .val (.int p2), .val (.int p3), .unset, .unset, .unset, .unset, .unset, .unset, .unset, .unset, .unset, .unset] [(.int p3)]))
  refine own_go (fun t k => XS.iconst X0.here hx rfl (hb hby at_1) k) ?_
  refine own_go (fun t k => XS.iand X0.here hx rfl (hb hby at_2) rfl k) ?_
  by_cases hc3 : (p3 &&& (1 : Int32)) = (0 : Int32)
  · refine own_go (fun t k => XS.ifYes X0.here hx rfl (pc0 := 3) (pc' := 14) rfl (hb hby at_3) rfl ((if0 _ _).trans (teq hc3).1) (by decide) (by decide) k) ?_
    refine own_go (fun t k => XS.iloadN X0.here hx rfl (hb hby at_14) rfl  k) ?_
    refine own_go (X0.ldcInt hx hown (mvT hZ (hw _ (List.mem_of_getElem? (i := 0) rfl))) (g := (mkF m 15 #[.val (.int p1), .val (.int p2), .val (.int p3), .unset, .unset, .unset, .unset, .unset, .unset, .unset, .unset, .unset, .unset] [(.int p1)])) rfl (hb hby at_15)) ?_
    show own_Run p e below Φ (s₁.setTop (mkF m 17 #[.val (.int p1), .val (.int p2), .val (.int p3), .unset, .unset, .unset, .unset, .unset, .unset, .unset, .unset, .unset, .unset] [(.int (65535 : Int32)), (.int p1)]))
    refine own_go (fun t k => XS.iand X0.here hx rfl (hb hby at_17) rfl k) ?_
    refine own_go (fun t k => XS.i2c X0.here hx rfl (hb hby at_18) rfl k) ?_
    exact J19_1 ((p1 &&& (65535 : Int32)).toUInt32.toUInt16.toUInt32.toInt32) (own_nn _)
  · refine own_go (fun t k => XS.ifNo X0.here hx rfl (hb hby at_3) rfl ((if0 _ _).trans (feq hc3).1) k) ?_
    refine own_go (fun t k => XS.iloadN X0.here hx rfl (hb hby at_6) rfl  k) ?_
    refine own_go (fun t k => XS.bipush X0.here hx rfl (hb hby at_7) k) ?_
    refine own_go (fun t k => XS.iand X0.here hx rfl (hb hby at_9) rfl k) ?_
    show own_Run p e below Φ (s₁.setTop (mkF m 10 #[.val (.int p1), .val (.int p2), .val (.int p3), .unset, .unset, .unset, .unset, .unset, .unset, .unset, .unset, .unset, .unset] [(.int (p1 &&& (127 : Int32)))]))
    refine own_go (fun t k => XS.i2c X0.here hx rfl (hb hby at_10) rfl k) ?_
    refine own_go (fun t k => XS.goto X0.here hx rfl (pc0 := 11) (pc' := 19) rfl (hb hby at_11) (by decide) (by decide) k) ?_
    exact J19_1 ((p1 &&& (127 : Int32)).toUInt32.toUInt16.toUInt32.toInt32) (own_nn _)
theorem own_len {Z : State} {args : Array Value} {t : Term} {x : Addr} {c : Cell} {ty : FieldType} {k : Int32} (ht : t.eval args Z none [] Z = some (.ref x)) (A : Arr Z Z.heap x c ty) (h : (Jvm.Cond.eq (.length t) (.int k)).value args Z none Z [] = some true) : c.slots.size = k.toNatClampNeg ∧ c.slots.size < 2 ^ 31 := by
  have e := own_eqI h
  have a := A.fin (Vm.Alike.refl Z.vm)
  by_cases q : c.slots.size < 2 ^ 31
  · rw [len_f ht a q] at e
    have e2 : c.slots.size.toInt32 = k := Value.int.inj (Option.some.inj e)
    refine ⟨?_, q⟩
    rw [← e2]; simp only [Int32.toNatClampNeg, len_toInt q]; rfl
  · simp [Term.eval, ht, a, q] at e
theorem own_at {Z : State} {args : Array Value} {t : Term} {x : Addr} {c : Cell} {ty : FieldType} {v : Int32} {j : Nat} (ht : ∀ idx, t.eval args Z none idx Z = some (.ref x)) (A : Arr Z Z.heap x c ty) (h : (Jvm.Cond.eq (.elem t (.index 0)) (.int v)).value args Z none Z [j] = some true) (hj : j < 2 ^ 31) : c.slots[j]? = some (.int v) := by
  have e := own_eqI h
  have n1 : j.toInt32.toInt = j := len_toInt hj
  have nn : ¬ j.toInt32 < 0 := by rw [Int32.lt_iff_toInt_lt, n1]; simp only [Int32.reduceToInt]; omega
  rw [elem_f (ht [j]) (Term.index_eval j) (A.fin (Vm.Alike.refl Z.vm)) nn] at e
  rw [show j.toInt32.toNatClampNeg = j by simp only [Int32.toNatClampNeg, n1]; rfl] at e
  exact e
theorem own_all2 {Z : State} {args : Array Value} {t : Term} {x : Addr} {c : Cell} {ty : FieldType} {k v : Int32} {j : Nat} (ht : ∀ idx, t.eval args Z none idx Z = some (.ref x)) (A : Arr Z Z.heap x c ty) (h : (Jvm.Cond.all t (.or (.le (.int k) (.index 0)) (.eq (.elem t (.index 0)) (.int v)))).value args Z none Z [] = some true) (hj : j < c.slots.size) (hs : c.slots.size < 2 ^ 31) (hk : (j : Int) < k.toInt) : c.slots[j]? = some (.int v) := by
  have q := Cond.all_elim (ht []) (A.fin (Vm.Alike.refl Z.vm)) h j hj
  have n1 : j.toInt32.toInt = j := len_toInt (by omega)
  rw [Cond.or_of_right (nay (Cond.le_ints (Term.int_eval k) (Term.index_eval j)) (by rw [Int32.le_iff_toInt_le, n1]; omega))] at q
  exact own_at ht A q (by omega)
theorem own_all3 {Z : State} {args : Array Value} {t : Term} {x : Addr} {c : Cell} {ty : FieldType} {i k v : Int32} {j : Nat} (ht : ∀ idx, t.eval args Z none idx Z = some (.ref x)) (A : Arr Z Z.heap x c ty) (h : (Jvm.Cond.all t (.or (.lt (.index 0) (.int i)) (.or (.le (.int k) (.index 0)) (.eq (.elem t (.index 0)) (.int v))))).value args Z none Z [] = some true) (hj : j < c.slots.size) (hs : c.slots.size < 2 ^ 31) (hi : i.toInt ≤ (j : Int)) (hk : (j : Int) < k.toInt) : c.slots[j]? = some (.int v) := by
  have q := Cond.all_elim (ht []) (A.fin (Vm.Alike.refl Z.vm)) h j hj
  have n1 : j.toInt32.toInt = j := len_toInt (by omega)
  rw [Cond.or_of_right (nay (Cond.lt_ints (Term.index_eval j) (Term.int_eval i)) (by rw [Int32.lt_iff_toInt_lt, n1]; omega)), Cond.or_of_right (nay (Cond.le_ints (Term.int_eval k) (Term.index_eval j)) (by rw [Int32.le_iff_toInt_le, n1]; omega))] at q
  exact own_at ht A q (by omega)
theorem own_fit : ∀ i : Fin 128, fits .byte (.int (own_tab i.1)) = true := by decide +kernel
theorem own_arv {Z : State} {x : Addr} {c : Cell} (A : Arr Z Z.heap x c .byte) (h : c.slots.size = (128 : Int32).toNatClampNeg) (el : ∀ j : Nat, j < 128 → c.slots[j]? = some (.int (own_tab j))) : Arv Z Z.heap x c.cls .byte (128 : Int32) ((List.range 128).map fun i => Value.int (own_tab i)) (.int 0) := by
  refine ⟨c, A, rfl, h, by decide, fun j hj => ?_, fun j hj => ?_⟩
  · rw [h] at hj
    have hj : j < 128 := hj
    rw [el j hj]; simp [List.getD_eq_getElem?_getD, List.getElem?_map, List.getElem?_range hj]
  · rw [h] at hj
    have hj : j < 128 := hj
    have := own_fit ⟨j, hj⟩
    simp [List.getD_eq_getElem?_getD, List.getElem?_map, List.getElem?_range hj]; exact this
theorem own_tb0 (j : Nat) (h1 : 0 ≤ j) (h2 : j < 33) : own_tab j = (0 : Int32) := by
  unfold own_tab
  rw [if_pos (by omega)]
theorem own_tb38 (j : Nat) (h1 : 38 ≤ j) (h2 : j < 45) : own_tab j = (32 : Int32) := by
  unfold own_tab
  rw [if_neg (by omega), if_neg (by omega), if_neg (by omega), if_neg (by omega), if_neg (by omega), if_neg (by omega), if_pos (by omega)]
theorem own_tb48 (j : Nat) (h1 : 48 ≤ j) (h2 : j < 58) : own_tab j = (14 : Int32) := by
  unfold own_tab
  rw [if_neg (by omega), if_neg (by omega), if_neg (by omega), if_neg (by omega), if_neg (by omega), if_neg (by omega), if_neg (by omega), if_neg (by omega), if_neg (by omega), if_neg (by omega), if_pos (by omega)]
theorem own_tb65 (j : Nat) (h1 : 65 ≤ j) (h2 : j < 71) : own_tab j = (13 : Int32) := by
  unfold own_tab
  rw [if_neg (by omega), if_neg (by omega), if_neg (by omega), if_neg (by omega), if_neg (by omega), if_neg (by omega), if_neg (by omega), if_neg (by omega), if_neg (by omega), if_neg (by omega), if_neg (by omega), if_neg (by omega), if_neg (by omega), if_neg (by omega), if_neg (by omega), if_neg (by omega), if_neg (by omega), if_neg (by omega), if_pos (by omega)]
theorem own_tb71 (j : Nat) (h1 : 71 ≤ j) (h2 : j < 91) : own_tab j = (9 : Int32) := by
  unfold own_tab
  rw [if_neg (by omega), if_neg (by omega), if_neg (by omega), if_neg (by omega), if_neg (by omega), if_neg (by omega), if_neg (by omega), if_neg (by omega), if_neg (by omega), if_neg (by omega), if_neg (by omega), if_neg (by omega), if_neg (by omega), if_neg (by omega), if_neg (by omega), if_neg (by omega), if_neg (by omega), if_neg (by omega), if_neg (by omega), if_pos (by omega)]
theorem own_tb97 (j : Nat) (h1 : 97 ≤ j) (h2 : j < 103) : own_tab j = (13 : Int32) := by
  unfold own_tab
  rw [if_neg (by omega), if_neg (by omega), if_neg (by omega), if_neg (by omega), if_neg (by omega), if_neg (by omega), if_neg (by omega), if_neg (by omega), if_neg (by omega), if_neg (by omega), if_neg (by omega), if_neg (by omega), if_neg (by omega), if_neg (by omega), if_neg (by omega), if_neg (by omega), if_neg (by omega), if_neg (by omega), if_neg (by omega), if_neg (by omega), if_neg (by omega), if_neg (by omega), if_neg (by omega), if_neg (by omega), if_neg (by omega), if_neg (by omega), if_pos (by omega)]
theorem own_tb103 (j : Nat) (h1 : 103 ≤ j) (h2 : j < 123) : own_tab j = (9 : Int32) := by
  unfold own_tab
  rw [if_neg (by omega), if_neg (by omega), if_neg (by omega), if_neg (by omega), if_neg (by omega), if_neg (by omega), if_neg (by omega), if_neg (by omega), if_neg (by omega), if_neg (by omega), if_neg (by omega), if_neg (by omega), if_neg (by omega), if_neg (by omega), if_neg (by omega), if_neg (by omega), if_neg (by omega), if_neg (by omega), if_neg (by omega), if_neg (by omega), if_neg (by omega), if_neg (by omega), if_neg (by omega), if_neg (by omega), if_neg (by omega), if_neg (by omega), if_neg (by omega), if_pos (by omega)]
set_option maxRecDepth 65536 in
set_option maxHeartbeats 40000000 in
theorem comes_1 {Post : Tables → Env → Array Value → State → Outcome → State → Prop} (hpost : ∀ tb e args s v u, (limb_1_1.after args s (.returned v) u = true ∧ limb_1_2.after args s (.returned v) u = true ∧ True) → FrameEnd s (.returned v) u (Jvm.fieldLocs frame_1_writes args s ++ Jvm.arrayLocs frame_1_arrays args s ++ Jvm.staticLocs frame_1_statics s) 0 0 → Post tb e args s (.returned v) u) :
    ArmFor flags0 classFile x code maxLocals ret World_1 tables_1 room_1 Calls_1 rest_1 Pre_1 Post := by
  intro l hfl _ _ p e ha hc hk s m args below hf hA hF happ hP
  obtain ⟨hcalls, hrest, hpre⟩ := hP
  obtain ⟨-, -, -, hnamed, -, -, -, hat⟩ := (Spec.applies_iff hf).mp happ
  obtain ⟨hg, hn⟩ := and_e (Cond.before_iff.mp (show (Jvm.Cond.and given_1 narrow_1).before args s = true from hpre))
  obtain ⟨hcount, hg⟩ := and_e hg
  obtain ⟨ha0, hg⟩ := and_e hg
  obtain ⟨ha1, hg⟩ := and_e hg
  have ha2 := hg
  obtain ⟨w0, w1, w2, rfl⟩ : ∃ w0 w1 w2 : Value, args = #[w0, w1, w2] := by
    have hs : args.size = 3 := by simpa [Cond.value, given_1] using hcount
    obtain ⟨L⟩ := args
    match L, hs with
    | [w0, w1, w2], _ => exact ⟨w0, w1, w2, rfl⟩
  have hw := fun d (hd : d ∈ tables_1) => atoms_spec (ws := Jvm.Cond.code x code maxLocals ret :: tables_1) hat d (List.mem_cons_of_mem _ hd)
  have hfit : Fit s := fun {y c} hc i hi => by
    obtain ⟨ha, rfl⟩ := Array.getElem?_eq_some_iff.mp hc
    have q := List.all_eq_true.mp ((Array.all_eq_true_iff_forall_mem.mp hF) _ (Array.getElem_mem ha)) i (List.mem_range.mpr hi)
    simpa [Array.getElem?_eq_getElem hi] using q
  obtain ⟨i0, ei0⟩ := is_v ha0
  obtain rfl : w0 = (.int i0) := Option.some.inj ei0
  obtain ⟨i1, ei1⟩ := is_v ha1
  obtain rfl : w1 = (.int i1) := Option.some.inj ei1
  obtain ⟨i2, ei2⟩ := is_v ha2
  obtain rfl : w2 = (.int i2) := Option.some.inj ei2
  obtain ⟨hn0, hn⟩ := and_e hn
  obtain ⟨hn1, hn⟩ := and_e hn
  obtain ⟨hn2, hn⟩ := and_e hn
  obtain ⟨hn3, hn⟩ := and_e hn
  obtain ⟨hn4, hn⟩ := and_e hn
  obtain ⟨hn5, hn⟩ := and_e hn
  obtain ⟨hn6, hn⟩ := and_e hn
  obtain ⟨hn7, hn⟩ := and_e hn
  obtain ⟨hn8, hn⟩ := and_e hn
  obtain ⟨hn9, hn⟩ := and_e hn
  obtain ⟨hn10, hn⟩ := and_e hn
  obtain ⟨hn11, hn⟩ := and_e hn
  obtain ⟨hn12, hn⟩ := and_e hn
  obtain ⟨hn13, hn⟩ := and_e hn
  obtain ⟨hn14, hn⟩ := and_e hn
  obtain ⟨hn15, hn⟩ := and_e hn
  obtain ⟨hn16, hn⟩ := and_e hn
  obtain ⟨hn17, hn⟩ := and_e hn
  obtain ⟨hn18, hn⟩ := and_e hn
  obtain ⟨hn19, hn⟩ := and_e hn
  obtain ⟨hn20, hn⟩ := and_e hn
  obtain ⟨hn21, hn⟩ := and_e hn
  obtain ⟨hn22, hn⟩ := and_e hn
  obtain ⟨hn23, hn⟩ := and_e hn
  obtain ⟨hn24, hn⟩ := and_e hn
  obtain ⟨hn25, hn⟩ := and_e hn
  obtain ⟨hn26, hn⟩ := and_e hn
  obtain ⟨hn27, hn⟩ := and_e hn
  obtain ⟨hn28, hn⟩ := and_e hn
  obtain ⟨hn29, hn⟩ := and_e hn
  obtain ⟨hn30, hn⟩ := and_e hn
  obtain ⟨hn31, hn⟩ := and_e hn
  obtain ⟨hn32, hn⟩ := and_e hn
  obtain ⟨hn33, hn⟩ := and_e hn
  have hn34 := hn
  obtain ⟨u1, eu1⟩ := arr_v hn0
  have S0 := Sta.start eu1 (Or.inr ⟨hw _ (List.mem_of_getElem? (i := 7) rfl), hw _ (List.mem_of_getElem? (i := 10) rfl)⟩)
  obtain ⟨cu, A0⟩ := Arr.start eu1 hn0
  obtain ⟨len0, len1⟩ := own_len eu1 A0 hn1
  have eu : ∀ idx, (Term.static "com/example/endereco/endereco/CharClass" "CLASSES" "[B").eval #[.int i0, .int i1, .int i2] s none idx s = some (.ref u1) := fun _ => eu1
  have el : ∀ j : Nat, j < 128 → cu.slots[j]? = some (.int (own_tab j)) := by
    intro j hj
    by_cases q0 : j < 33
    · rw [own_tb0 j (by omega) (by omega)]; exact own_all2 eu A0 hn2 (by rw [len0]; exact hj) len1 (by simp only [Int32.reduceToInt]; omega)
    by_cases q33 : j = 33
    · subst q33; exact (elem_in (v := .int (32 : Int32)) (own_eqI hn3) eu1 rfl A0.1).2
    by_cases q34 : j = 34
    · subst q34; exact (elem_in (v := .int (0 : Int32)) (own_eqI hn4) eu1 rfl A0.1).2
    by_cases q35 : j = 35
    · subst q35; exact (elem_in (v := .int (16 : Int32)) (own_eqI hn5) eu1 rfl A0.1).2
    by_cases q36 : j = 36
    · subst q36; exact (elem_in (v := .int (32 : Int32)) (own_eqI hn6) eu1 rfl A0.1).2
    by_cases q37 : j = 37
    · subst q37; exact (elem_in (v := .int (0 : Int32)) (own_eqI hn7) eu1 rfl A0.1).2
    by_cases q38 : j < 45
    · rw [own_tb38 j (by omega) (by omega)]; exact own_all3 eu A0 hn8 (by rw [len0]; exact hj) len1 (by simp only [Int32.reduceToInt]; omega) (by simp only [Int32.reduceToInt]; omega)
    by_cases q45 : j = 45
    · subst q45; exact (elem_in (v := .int (8 : Int32)) (own_eqI hn9) eu1 rfl A0.1).2
    by_cases q46 : j = 46
    · subst q46; exact (elem_in (v := .int (8 : Int32)) (own_eqI hn10) eu1 rfl A0.1).2
    by_cases q47 : j = 47
    · subst q47; exact (elem_in (v := .int (16 : Int32)) (own_eqI hn11) eu1 rfl A0.1).2
    by_cases q48 : j < 58
    · rw [own_tb48 j (by omega) (by omega)]; exact own_all3 eu A0 hn12 (by rw [len0]; exact hj) len1 (by simp only [Int32.reduceToInt]; omega) (by simp only [Int32.reduceToInt]; omega)
    by_cases q58 : j = 58
    · subst q58; exact (elem_in (v := .int (16 : Int32)) (own_eqI hn13) eu1 rfl A0.1).2
    by_cases q59 : j = 59
    · subst q59; exact (elem_in (v := .int (32 : Int32)) (own_eqI hn14) eu1 rfl A0.1).2
    by_cases q60 : j = 60
    · subst q60; exact (elem_in (v := .int (0 : Int32)) (own_eqI hn15) eu1 rfl A0.1).2
    by_cases q61 : j = 61
    · subst q61; exact (elem_in (v := .int (32 : Int32)) (own_eqI hn16) eu1 rfl A0.1).2
    by_cases q62 : j = 62
    · subst q62; exact (elem_in (v := .int (0 : Int32)) (own_eqI hn17) eu1 rfl A0.1).2
    by_cases q63 : j = 63
    · subst q63; exact (elem_in (v := .int (16 : Int32)) (own_eqI hn18) eu1 rfl A0.1).2
    by_cases q64 : j = 64
    · subst q64; exact (elem_in (v := .int (16 : Int32)) (own_eqI hn19) eu1 rfl A0.1).2
    by_cases q65 : j < 71
    · rw [own_tb65 j (by omega) (by omega)]; exact own_all3 eu A0 hn20 (by rw [len0]; exact hj) len1 (by simp only [Int32.reduceToInt]; omega) (by simp only [Int32.reduceToInt]; omega)
    by_cases q71 : j < 91
    · rw [own_tb71 j (by omega) (by omega)]; exact own_all3 eu A0 hn21 (by rw [len0]; exact hj) len1 (by simp only [Int32.reduceToInt]; omega) (by simp only [Int32.reduceToInt]; omega)
    by_cases q91 : j = 91
    · subst q91; exact (elem_in (v := .int (16 : Int32)) (own_eqI hn22) eu1 rfl A0.1).2
    by_cases q92 : j = 92
    · subst q92; exact (elem_in (v := .int (0 : Int32)) (own_eqI hn23) eu1 rfl A0.1).2
    by_cases q93 : j = 93
    · subst q93; exact (elem_in (v := .int (16 : Int32)) (own_eqI hn24) eu1 rfl A0.1).2
    by_cases q94 : j = 94
    · subst q94; exact (elem_in (v := .int (0 : Int32)) (own_eqI hn25) eu1 rfl A0.1).2
    by_cases q95 : j = 95
    · subst q95; exact (elem_in (v := .int (8 : Int32)) (own_eqI hn26) eu1 rfl A0.1).2
    by_cases q96 : j = 96
    · subst q96; exact (elem_in (v := .int (0 : Int32)) (own_eqI hn27) eu1 rfl A0.1).2
    by_cases q97 : j < 103
    · rw [own_tb97 j (by omega) (by omega)]; exact own_all3 eu A0 hn28 (by rw [len0]; exact hj) len1 (by simp only [Int32.reduceToInt]; omega) (by simp only [Int32.reduceToInt]; omega)
    by_cases q103 : j < 123
    · rw [own_tb103 j (by omega) (by omega)]; exact own_all3 eu A0 hn29 (by rw [len0]; exact hj) len1 (by simp only [Int32.reduceToInt]; omega) (by simp only [Int32.reduceToInt]; omega)
    by_cases q123 : j = 123
    · subst q123; exact (elem_in (v := .int (0 : Int32)) (own_eqI hn30) eu1 rfl A0.1).2
    by_cases q124 : j = 124
    · subst q124; exact (elem_in (v := .int (0 : Int32)) (own_eqI hn31) eu1 rfl A0.1).2
    by_cases q125 : j = 125
    · subst q125; exact (elem_in (v := .int (0 : Int32)) (own_eqI hn32) eu1 rfl A0.1).2
    by_cases q126 : j = 126
    · subst q126; exact (elem_in (v := .int (8 : Int32)) (own_eqI hn33) eu1 rfl A0.1).2
    by_cases q127 : j = 127
    · subst q127; exact (elem_in (v := .int (0 : Int32)) (own_eqI hn34) eu1 rfl A0.1).2
    omega
  have V0 : Arv s s.heap u1 cu.cls .byte (128 : Int32) ((List.range 128).map fun i => Value.int (own_tab i)) (.int 0) := own_arv A0 len0 el
  obtain ⟨n, o, h1, h2, h3, _, L, rfl, ⟨rfl, N⟩, hq⟩ := rm_law l s _ hw i0 i1 i2 u1 cu.cls s.heap s.heap.size (Old.start s) S0 V0 tables_1 p e ha hc hk s m _ below hf ((Spec.applies_iff_loose hf).mp happ).1 ⟨rfl, State.Warmed39.refl s, rfl⟩ trivial
  refine ⟨n, _, h1, h2, h3, hpost _ _ _ _ _ _ ⟨Cond.after_iff.mpr rfl, Cond.after_iff.mpr (eq_i res_at (Term.int_eval (1)) rfl), trivial⟩ ⟨hq.1, hq.2.1, (hq.2.2.sift fun y hy => Or.inr (N y hy)).mono (by decide) (by decide)⟩⟩
theorem main_1_1 : Claimed_1_1 := comes_1 fun _ _ _ _ _ _ h hF => ⟨h.1, hF⟩
theorem main_1_2 : Claimed_1_2 := comes_1 fun _ _ _ _ _ _ h hF => ⟨h.2.1, hF⟩
end Jvm.Pilot.@@N@@
namespace Jvm.Pilot.@@N@@
open Jvm Jvm.ClassFile Sem Op Lib Jvm.Free Jvm.Stand Jvm.Pilot.@@N@@.Jvm.D
/-! MADE BY PROGRAM (witnessworld.py) out of the Statement's table words and the real class files: 9 classes; the members and pool entries that the words name. The judged class is class 1, her method 2. -/
namespace start1
open Jvm.ClassFile
def u (s : String) : CpInfo := .utf8 (stringToUtf16 s)
/-- a pool by its gaps: so many unusable entries, then the entry; so many at the end -/
def gap : Nat → List CpInfo → List CpInfo
  | 0, r => r
  | n + 1, r => .unusable :: gap n r
def poolList (es : List (Nat × CpInfo)) (last : Nat) : List CpInfo := es.foldr (fun e r => gap e.1 (e.2 :: r)) (gap last [])
def pool (es : List (Nat × CpInfo)) (last : Nat) : Array CpInfo := ⟨poolList es last⟩
def fileOf (pool : Array CpInfo) (this : Nat) (attrs : Array Attribute := #[]) (ms : Array MethodInfo := #[]) (fl : Nat := 33) (sup : Nat := 0) (ifs : Array Nat := #[]) (fds : Array FieldInfo := #[]) : ClassFile where
  minorVersion := 0
  majorVersion := 65
  constantPool := pool
  accessFlags := fl
  thisClass := this
  superClass := sup
  interfaces := ifs
  fields := fds
  methods := ms
  attributes := attrs
def plain (name : String) (sup : Option ClassId) : Class where
  name := name
  kind := .ordinary
  loader := none
  accessFlags := 33
  super := sup
  interfaces := #[]
  cf := none
  fields := #[]
  methods := #[]
  instanceTypes := #[]
  staticTypes := #[]
  resolved := #[]
  callSites := []
  init := .initialized
  statics := none
  mirror := none

def pool0 : Array CpInfo := pool [(5, u "<init>"), (0, u "()V"), (1, .class_ 10), (1, u "java/lang/Object")] 113

def k0m0 : Method := { name := "<init>", desc := "()V", sig := { parameters := [], returnType := none }, accessFlags := 1, code := none }
/-- java/lang/Object -/
def k0 : Class := { plain "java/lang/Object" none with
  accessFlags := 33
  interfaces := #[]
  cf := some (fileOf pool0 8 #[] #[{ accessFlags := 1, nameIndex := 5, descriptorIndex := 6, attributes := #[] }] 33 0 #[] #[])
  fields := #[]
  methods := #[k0m0]
  instanceTypes := #[]
  staticTypes := #[]
  resolved := Array.replicate 124 none
  statics := none }

def pool1 : Array CpInfo := pool [(2, .class_ 4), (1, u "java/lang/Object"), (0, u "<init>"), (0, u "()V"), (0, .integer 65535), (0, .methodref 9 10), (0, .class_ 11), (0, .nameAndType 12 13), (0, u "com/example/endereco/endereco/CharClassIsInPinLaw"), (0, u "in"), (0, u "(CCC)Z"), (0, .class_ 15), (0, u "com/example/endereco/endereco/CharClass"), (0, .methodref 14 17), (0, .nameAndType 18 19), (0, u "isIn"), (0, u "(CI)Z"), (3, u "law"), (0, u "(III)Z")] 2

def k1m0 : Method := { name := "<init>", desc := "()V", sig := { parameters := [], returnType := none }, accessFlags := 1, code := none }
def k1c1 : Code := { maxStack := 2, maxLocals := 3, code := method_2_code, exceptionTable := #[], attributes := #[] }
def k1m1 : Method := { name := "in", desc := "(CCC)Z", sig := { parameters := [.char, .char, .char], returnType := some .boolean }, accessFlags := 10, code := some k1c1 }
def k1c2 : Code := { maxStack := 3, maxLocals := 13, code := code, exceptionTable := #[], attributes := #[] }
def k1m2 : Method := { name := "law", desc := "(III)Z", sig := { parameters := [.int, .int, .int], returnType := some .boolean }, accessFlags := 9, code := some k1c2 }
/-- com/example/endereco/endereco/CharClassIsInPinLaw -/
def k1 : Class := { plain "com/example/endereco/endereco/CharClassIsInPinLaw" (some 0) with
  accessFlags := 49
  interfaces := #[]
  cf := some (fileOf pool1 9 #[] #[{ accessFlags := 1, nameIndex := 5, descriptorIndex := 6, attributes := #[] }, { accessFlags := 10, nameIndex := 12, descriptorIndex := 13, attributes := #[] }, { accessFlags := 9, nameIndex := 23, descriptorIndex := 24, attributes := #[] }] 49 2 #[] #[])
  fields := #[]
  methods := #[k1m0, k1m1, k1m2]
  instanceTypes := #[]
  staticTypes := #[]
  resolved := Array.replicate 27 none
  statics := none }

def pool2 : Array CpInfo := pool [(1, .class_ 2), (0, u "com/example/endereco/endereco/CharClass"), (1, .class_ 6), (1, u "java/lang/Object"), (0, u "<init>"), (0, u "()V"), (0, .fieldref 1 10), (0, .nameAndType 11 12), (0, u "CLASSES"), (0, u "[B"), (26, u "ALPHA"), (0, u "I"), (2, u "DIGIT"), (1, u "HEXDIG"), (1, u "UNRESERVED"), (1, u "GEN_DELIM"), (1, u "SUB_DELIM"), (1, u "RESERVED"), (3, u "isIn"), (0, u "(CI)Z")] 6

def k2m0 : Method := { name := "<init>", desc := "()V", sig := { parameters := [], returnType := none }, accessFlags := 2, code := none }
def k2c1 : Code := { maxStack := 2, maxLocals := 2, code := prog_6_method_2_code, exceptionTable := #[], attributes := #[] }
def k2m1 : Method := { name := "isIn", desc := "(CI)Z", sig := { parameters := [.char, .int], returnType := some .boolean }, accessFlags := 8, code := some k2c1 }
/-- com/example/endereco/endereco/CharClass -/
def k2 : Class := { plain "com/example/endereco/endereco/CharClass" (some 0) with
  accessFlags := 48
  interfaces := #[]
  cf := some (fileOf pool2 1 #[] #[{ accessFlags := 2, nameIndex := 7, descriptorIndex := 8, attributes := #[] }, { accessFlags := 8, nameIndex := 57, descriptorIndex := 58, attributes := #[] }] 48 4 #[] #[{ accessFlags := 24, nameIndex := 39, descriptorIndex := 40, attributes := #[] }, { accessFlags := 24, nameIndex := 43, descriptorIndex := 40, attributes := #[] }, { accessFlags := 24, nameIndex := 45, descriptorIndex := 40, attributes := #[] }, { accessFlags := 24, nameIndex := 47, descriptorIndex := 40, attributes := #[] }, { accessFlags := 24, nameIndex := 49, descriptorIndex := 40, attributes := #[] }, { accessFlags := 24, nameIndex := 51, descriptorIndex := 40, attributes := #[] }, { accessFlags := 24, nameIndex := 53, descriptorIndex := 40, attributes := #[] }, { accessFlags := 26, nameIndex := 11, descriptorIndex := 12, attributes := #[] }])
  fields := #[{ name := "ALPHA", type := .int, accessFlags := 24, slot := 0, constantValue := 0 }, { name := "DIGIT", type := .int, accessFlags := 24, slot := 1, constantValue := 0 }, { name := "HEXDIG", type := .int, accessFlags := 24, slot := 2, constantValue := 0 }, { name := "UNRESERVED", type := .int, accessFlags := 24, slot := 3, constantValue := 0 }, { name := "GEN_DELIM", type := .int, accessFlags := 24, slot := 4, constantValue := 0 }, { name := "SUB_DELIM", type := .int, accessFlags := 24, slot := 5, constantValue := 0 }, { name := "RESERVED", type := .int, accessFlags := 24, slot := 6, constantValue := 0 }, { name := "CLASSES", type := (.array .byte), accessFlags := 26, slot := 7, constantValue := 0 }]
  methods := #[k2m0, k2m1]
  instanceTypes := #[]
  staticTypes := #[.int, .int, .int, .int, .int, .int, .int, (.array .byte)]
  resolved := Array.replicate 65 none
  statics := some 0 }

def pool3 : Array CpInfo := pool [(1, u "java/lang/Cloneable"), (0, .class_ 1), (0, u "java/lang/Object"), (0, .class_ 3)] 3

/-- java/lang/Cloneable -/
def k3 : Class := { plain "java/lang/Cloneable" (some 0) with
  accessFlags := 1537
  interfaces := #[]
  cf := some (fileOf pool3 2 #[] #[] 1537 4 #[] #[])
  fields := #[]
  methods := #[]
  instanceTypes := #[]
  staticTypes := #[]
  resolved := Array.replicate 8 none
  statics := none }

def pool4 : Array CpInfo := pool [(1, u "java/io/Serializable"), (0, .class_ 1), (0, u "java/lang/Object"), (0, .class_ 3)] 3

/-- java/io/Serializable -/
def k4 : Class := { plain "java/io/Serializable" (some 0) with
  accessFlags := 1537
  interfaces := #[]
  cf := some (fileOf pool4 2 #[] #[] 1537 4 #[] #[])
  fields := #[]
  methods := #[]
  instanceTypes := #[]
  staticTypes := #[]
  resolved := Array.replicate 8 none
  statics := none }

/-- the primitive byte -/
def k5 : Class := { plain "byte" none with kind := .primitive 'B', accessFlags := 0x411 }
/-- [B -/
def k6 : Class := { plain "[B" (some 0) with kind := .array 5 .byte, interfaces := #[3, 4], accessFlags := 1041 }

/-- the primitive int -/
def k7 : Class := { plain "int" none with kind := .primitive 'I', accessFlags := 0x411 }
/-- [I -/
def k8 : Class := { plain "[I" (some 0) with kind := .array 7 .int, interfaces := #[3, 4], accessFlags := 1041 }

def heap : Heap := #[{ cls := 2, slots := #[.int 0, .int 0, .int 0, .int 0, .int 0, .int 0, .int 0, .ref 1], vm := .statics 2 },
  { cls := 6, slots := #[.int 0, .int 0, .int 0, .int 0, .int 0, .int 0, .int 0, .int 0, .int 0, .int 0, .int 0, .int 0, .int 0, .int 0, .int 0, .int 0, .int 0, .int 0, .int 0, .int 0, .int 0, .int 0, .int 0, .int 0, .int 0, .int 0, .int 0, .int 0, .int 0, .int 0, .int 0, .int 0, .int 0, .int 32, .int 0, .int 16, .int 32, .int 0, .int 32, .int 32, .int 32, .int 32, .int 32, .int 32, .int 32, .int 8, .int 8, .int 16, .int 14, .int 14, .int 14, .int 14, .int 14, .int 14, .int 14, .int 14, .int 14, .int 14, .int 16, .int 32, .int 0, .int 32, .int 0, .int 16, .int 16, .int 13, .int 13, .int 13, .int 13, .int 13, .int 13, .int 9, .int 9, .int 9, .int 9, .int 9, .int 9, .int 9, .int 9, .int 9, .int 9, .int 9, .int 9, .int 9, .int 9, .int 9, .int 9, .int 9, .int 9, .int 9, .int 9, .int 16, .int 0, .int 16, .int 0, .int 8, .int 0, .int 13, .int 13, .int 13, .int 13, .int 13, .int 13, .int 9, .int 9, .int 9, .int 9, .int 9, .int 9, .int 9, .int 9, .int 9, .int 9, .int 9, .int 9, .int 9, .int 9, .int 9, .int 9, .int 9, .int 9, .int 9, .int 9, .int 0, .int 0, .int 0, .int 8, .int 0], vm := .none }]
def classes : Array Class := #[k0, k1, k2, k3, k4, k5, k6, k7, k8]
def interned : List (Array UInt16 × Addr) := []
def slotsUsed : Nat := 136
def theMethod : MethodId := ⟨1, 2⟩
def args0 : Array Value := #[.int 5, .int 7, .int 9]
def aboutOver (below : List Frame) : State where
  vm := { classes := classes, interned := interned.toArray }
  heap := heap
  slotsUsed := slotsUsed
  threads := #[{ frames := .invoking theMethod args0 :: below }]
def below0 : List Frame := [.native { method := ⟨0, 0⟩, args := #[] }]
def about1 : State := aboutOver below0
def p0 : Program := .bare "" "" ""
def e0 : Env := launch0.env 0 0 0
theorem w_frames : about1.frames = Frame.invoking theMethod args0 :: below0 := rfl
set_option maxRecDepth 65536 in
theorem w_args : argsFit about1.vm theMethod args0 = true := by decide +kernel
set_option maxRecDepth 65536 in
theorem w_heap : heapFits about1 = true := by decide +kernel
set_option maxRecDepth 65536 in
theorem w_runnable : about1.curStatus? = some .runnable := by decide +kernel
set_option maxRecDepth 65536 in
theorem w_alone : about1.alone = true := by decide +kernel
set_option maxRecDepth 65536 in
theorem w_named : about1.methodNamed? x = some theMethod := by decide +kernel
set_option maxRecDepth 65536 in
theorem w_hears : about1.hears theMethod below0 = true := by decide +kernel
set_option maxRecDepth 65536 in
theorem w_ripe : about1.ripe theMethod args0 below0 = true := by decide +kernel
theorem w_running : about1.status = .running := rfl
set_option maxRecDepth 65536 in
theorem w_room : about1.hasRoom e0.platform room_1 = true :=
  launch0.hasRoom_least _ room_1 (by decide +kernel) (by decide +kernel) (by decide +kernel) (by decide +kernel) (by decide +kernel) (by decide +kernel)
theorem allAtoms_all (ts : List Jvm.Cond) (a : Array Jvm.Value) (st : Jvm.State) : (allAtoms ts).before a st = ts.all (fun c => c.before a st) := by
  induction ts with
  | nil => rfl
  | cons c t ih =>
    show (Jvm.Cond.and c (allAtoms t)).before a st = _
    rw [Jvm.Cond.before_and, ih, List.all_cons]
def words1 : List Jvm.Cond := Jvm.Cond.code x code maxLocals ret :: tables_1
/-- a 'code' word, met by the world's own term for the bytes: nothing is compared byte by byte -/
theorem code_word {y : MethodName} {bytes : ByteArray} {mx : Nat} {rt : Option FieldType} {a : Array Value} {s : State} {m : MethodId} {meth : Method} {c : Code} (h1 : s.methodNamed? y = some m) (h2 : s.vm.method? m = some meth) (h3 : meth.code = some c) (h4 : c.code = bytes)
    (h5 : (c.maxLocals == mx && c.exceptionTable.isEmpty && decide (c.maxStack ≤ mostOperands) && decide (meth.sig.returnType = rt) && !meth.locks && decide (parseMethodDescriptor y.desc = some meth.sig)) = true) : (Jvm.Cond.code y bytes mx rt).before a s = true := by
  simp only [Bool.and_eq_true, beq_iff_eq, Bool.not_eq_true', decide_eq_true_eq] at h5
  obtain ⟨⟨⟨⟨⟨g1, g2⟩, g3⟩, g4⟩, g5⟩, g6⟩ := h5
  simp [Cond.before, Cond.holds, Cond.value, h1, h2, h3, h4, g1, g2, g3, g4, g5, g6]
def isCode : Jvm.Cond → Bool
  | .code _ _ _ _ => true
  | _ => false
theorem all_split {L : List Jvm.Cond} {P : Jvm.Cond → Bool} (h1 : L.all (fun c => isCode c || P c) = true) (h2 : ∀ c ∈ L.filter isCode, P c = true) : L.all P = true := by
  refine List.all_eq_true.mpr fun c hc => ?_
  have h := List.all_eq_true.mp h1 c hc
  rcases Bool.eq_false_or_eq_true (isCode c) with hi | hi
  · exact h2 c (List.mem_filter.mpr ⟨hc, hi⟩)
  · simpa [hi] using h
set_option maxRecDepth 65536 in
theorem w_c0 : (Jvm.Cond.code x code maxLocals ret).before args0 about1 = true := code_word (m := ⟨1, 2⟩) (meth := k1m2) (c := k1c2) (by decide +kernel) rfl rfl rfl (by decide +kernel)
set_option maxRecDepth 65536 in
theorem w_c1 : (Jvm.Cond.code ({ cls := "com/example/endereco/endereco/CharClassIsInPinLaw", name := "in", desc := "(CCC)Z" } : Jvm.MethodName) method_2_code (3 : Nat) (Option.some Jvm.ClassFile.FieldType.boolean)).before args0 about1 = true := code_word (m := ⟨1, 1⟩) (meth := k1m1) (c := k1c1) (by decide +kernel) rfl rfl rfl (by decide +kernel)
set_option maxRecDepth 65536 in
theorem w_c2 : (Jvm.Cond.code ({ cls := "com/example/endereco/endereco/CharClass", name := "isIn", desc := "(CI)Z" } : Jvm.MethodName) prog_6_method_2_code (2 : Nat) (Option.some Jvm.ClassFile.FieldType.boolean)).before args0 about1 = true := code_word (m := ⟨2, 1⟩) (meth := k2m1) (c := k2c1) (by decide +kernel) rfl rfl rfl (by decide +kernel)
def codes1 : List Jvm.Cond := [Jvm.Cond.code x code maxLocals ret, Jvm.Cond.code ({ cls := "com/example/endereco/endereco/CharClassIsInPinLaw", name := "in", desc := "(CCC)Z" } : Jvm.MethodName) method_2_code (3 : Nat) (Option.some Jvm.ClassFile.FieldType.boolean), Jvm.Cond.code ({ cls := "com/example/endereco/endereco/CharClass", name := "isIn", desc := "(CI)Z" } : Jvm.MethodName) prog_6_method_2_code (2 : Nat) (Option.some Jvm.ClassFile.FieldType.boolean)]
set_option maxRecDepth 65536 in
theorem codes_eq : words1.filter isCode = codes1 := rfl
theorem w_codes : ∀ c ∈ words1.filter isCode, c.before args0 about1 = true := by
  rw [codes_eq]
  intro c hc
  simp only [codes1, List.mem_cons, List.not_mem_nil, or_false] at hc
  rcases hc with rfl | rfl | rfl
  · exact w_c0
  · exact w_c1
  · exact w_c2
set_option maxRecDepth 65536 in
theorem w_t1 : words1.all (fun c => isCode c || c.before args0 about1) = true := by decide +kernel
theorem w_tables : (allAtoms (Jvm.Cond.code x code maxLocals ret :: tables_1)).before args0 about1 = true := by
  rw [allAtoms_all]
  show words1.all (fun c => c.before args0 about1) = true
  refine all_split ?_ w_codes
  rw [w_t1]
set_option maxRecDepth 65536 in
theorem w_case : (Jvm.Cond.and given_1 narrow_1).before args0 about1 = true := by decide +kernel
theorem w_applies : (headSpec (Jvm.Cond.code x code maxLocals ret :: tables_1) room_1).applies x e0.platform about1 = true :=
  (Spec.applies_iff w_frames).mpr ⟨w_running, w_runnable, w_alone, w_named, w_hears, w_ripe, w_room, w_tables⟩
theorem atStart : AtStart classFile x code maxLocals ret World_1 tables_1 room_1 Calls_1 rest_1 Pre_1 launch0 p0 e0 about1 theMethod args0 below0 :=
  ⟨lists_1, trivial, launch0.admits_env _ _ _, launch0.least_env, fairChoices_fair.cas, fairChoices_fair.clock, w_frames, w_args, w_heap, w_applies, trivial, trivial, w_case⟩
end start1
theorem witness_1 : WitnessClaimed_1 := ⟨start1.p0, start1.e0, start1.about1, start1.theMethod, start1.args0, start1.below0, start1.atStart⟩
end Jvm.Pilot.@@N@@
