import JvmDerived
import JvmDerived.Pilot.@@N@@Statement
import JvmDerived.Pilot.@@N@@Code
set_option linter.unusedVariables false
set_option linter.unusedSimpArgs false
set_option maxHeartbeats 40000000
namespace Jvm.RoadKit
open Sem ClassFile Op Lib Jvm.Stand Jvm.Free Jvm.LawKit
section New
variable {p : Program} {l : Launch} {e : Env} {R : Room} {s : State} {m : MethodId} {args : Array Value} {below : List Frame} {meth : Method} {c : Code} {T : State} {locs : List Loc} {cells slots : Nat}
theorem retI (X : Stand p l e R s m args below meth c T locs cells slots) (hx : p.tables.exec = Jvm.exec) {pc : Nat} {Ls : Array Slot} {z : Int32} {rest : List Value} (hret : meth.sig.returnType = some .int) (hd : decode c.code pc = .ok (.ireturn, 1)) {fs : List Frame}
    (hl : ∀ (f : JFrame) (acts : List Action), f.method = m → f.locked = none → f.entered = [] → (doReturn e (T.setTop f) acts (some (.int z))).1 = T.setFrames fs) : Steps p.tables e below (T.setTop (mkF m pc Ls (.int z :: rest))) (T.setFrames fs) := by
  have hm' : T.vm.method? m = some meth := X.method'
  have hn : narrow .int (.int z) = .int z := rfl
  show Steps p.tables e below (T.setTop { method := m, pc := pc, locals := Ls, stack := _ :: rest, locked := none }) _
  jvm_step X.here [X.here.top, hx, hd, hm', hret, hn]
  first | (intro acts; rw [hl _ acts rfl rfl rfl]) | rw [hl _ _ rfl rfl rfl]
  exact Steps.refl _
end New
end Jvm.RoadKit
namespace Jvm.Pilot.@@N@@
open Jvm Jvm.ClassFile Sem Op Lib Jvm.Free Jvm.Stand Jvm.LawKit Jvm.RoadKit Bundle Jvm.Pilot.@@N@@.Jvm.D
/-! a run that ends well: what this text is made of -/
def own_Run (p : Program) (e : Env) (below : List Frame) (Φ : State → Prop) (S : State) : Prop := ∃ t, Steps p.tables e below S t ∧ Φ t
def own_Fin (s : State) (below : List Frame) (C D : Nat) (Q : Option Value → Heap → List Loc → Prop) (t : State) : Prop :=
  t.status = .running ∧ ∃ v L, Ended t below (.returned v) ∧ Q v t.heap L ∧ FrameEnd s (.returned v) t L C D
def own_Met (l : Launch) (Z : State) (y : MethodName) (bytes : ByteArray) (maxL : Nat) (ret : Option FieldType) (rm : Room) (as : Array Value) (h : Heap) (Q : Option Value → Heap → List Loc → Prop) : Prop :=
  ∀ ws : List Jvm.Cond, MetFree l y (head1 (Jvm.Cond.code y bytes maxL ret :: ws) rm) (fun a U => a = as ∧ Z.Warmed39 U.vm ∧ U.heap = h) (fun _ _ _ _ _ => True) (fun _ U o U' => ∃ v L, o = .returned v ∧ Q v U'.heap L ∧ FrameEnd U o U' L rm.cells rm.slots)
section OwnRun
variable {p : Program} {l : Launch} {e : Env} {R : Room} {s : State} {m : MethodId} {args : Array Value} {below : List Frame} {meth : Method} {c : Code} {T : State} {locs : List Loc} {cells slots : Nat} {Φ : State → Prop} {S S' : State} {Z : State} {a0 : Array Value} {h : Heap}
theorem own_go (st : ∀ t, Steps p.tables e below S' t → Steps p.tables e below S t) (r : own_Run p e below Φ S') : own_Run p e below Φ S := r.elim fun t q => ⟨t, st t q.1, q.2⟩
theorem own_via (st : Steps p.tables e below S S') (r : own_Run p e below Φ S') : own_Run p e below Φ S := r.elim fun t q => ⟨t, st.trans q.1, q.2⟩
theorem own_cast {g g' : JFrame} (q : g = g') (r : own_Run p e below Φ (T.setTop g')) : own_Run p e below Φ (T.setTop g) := q ▸ r
theorem own_body {C D : Nat} {Q : Option Value → Heap → List Loc → Prop} (r : own_Run p e below (own_Fin s below C D Q) S) :
    ∃ s₂ o, Steps p.tables e below S s₂ ∧ s₂.status = .running ∧ Ended s₂ below o ∧ ∃ v L, o = .returned v ∧ Q v s₂.heap L ∧ FrameEnd s o s₂ L C D := by
  obtain ⟨t, q1, q2, v, L, q3, q4, q5⟩ := r
  exact ⟨t, _, q1, q2, q3, v, L, rfl, q4, q5⟩
variable {C D : Nat} {Q : Option Value → Heap → List Loc → Prop}
theorem own_retI (X : Stand p l e R s m args below meth c T locs cells slots) (hx : p.tables.exec = Jvm.exec) (hret : meth.sig.returnType = some .int) (hlk : meth.locks = false) {pc : Nat} {Ls : Array Slot} {z : Int32} {rest : List Value} (hd : decode c.code pc = .ok (.ireturn, 1)) (eT : T.heap = h) (hq : Q (some (.int z)) h locs) (hc : cells ≤ C) (hs : slots ≤ D) :
    own_Run p e below (own_Fin s below C D Q) (T.setTop (mkF m pc Ls (.int z :: rest))) := by
  obtain ⟨fs, hr, hrun, hended, hW, hsame⟩ := X.leave (v := some (.int z)) (fun q => by rw [hret] at q; cases q) hlk
  exact ⟨_, retI X hx hret hd hr, hrun, _, _, hended, by show Q _ T.heap _; rw [eT]; exact hq, ⟨_, rfl⟩, hW, hsame.mono hc hs⟩
theorem own_retN (X : Stand p l e R s m args below meth c T locs cells slots) (hx : p.tables.exec = Jvm.exec) {t : FieldType} (hret : meth.sig.returnType = some t) (ht : t = .boolean ∨ t = .byte ∨ t = .char ∨ t = .short) (hlk : meth.locks = false) {pc : Nat} {Ls : Array Slot} {z : Int32} {rest : List Value} (hd : decode c.code pc = .ok (.ireturn, 1)) (eT : T.heap = h) (hq : Q (some (.int (nar t z))) h locs) (hc : cells ≤ C) (hs : slots ≤ D) :
    own_Run p e below (own_Fin s below C D Q) (T.setTop (mkF m pc Ls (.int z :: rest))) := by
  obtain ⟨fs, hr, hrun, hended, hW, hsame⟩ := X.leave (v := some (.int (nar t z))) (fun q => by rw [hret] at q; cases q) hlk
  exact ⟨_, retN X hx hret ht hd hr, hrun, _, _, hended, by show Q _ T.heap _; rw [eT]; exact hq, ⟨_, rfl⟩, hW, hsame.mono hc hs⟩
theorem own_retV (X : Stand p l e R s m args below meth c T locs cells slots) (hx : p.tables.exec = Jvm.exec) (hret : meth.sig.returnType = none) (hlk : meth.locks = false) {pc : Nat} {Ls : Array Slot} (hd : decode c.code pc = .ok (.return_, 1)) (eT : T.heap = h) (hq : Q none h locs) (hc : cells ≤ C) (hs : slots ≤ D) :
    own_Run p e below (own_Fin s below C D Q) (T.setTop (mkF m pc Ls [])) := by
  obtain ⟨fs, hr, hrun, hended, hW, hsame⟩ := X.leave (v := none) (fun _ => rfl) hlk
  exact ⟨_, X.returnOut hx hret hd hr, hrun, _, _, hended, by show Q _ T.heap _; rw [eT]; exact hq, ⟨_, rfl⟩, hW, hsame.mono hc hs⟩
theorem own_retO (X : Stand p l e R s m args below meth c T locs cells slots) (hx : p.tables.exec = Jvm.exec) {t : FieldType} {i : Instr} {w : Value} (hret : meth.sig.returnType = some t) (hn : narrow t w = w)
    (hi : (i = .ireturn ∧ (t = .int ∨ t = .boolean ∨ t = .byte ∨ t = .char ∨ t = .short) ∧ ∃ z, w = .int z) ∨ (i = .lreturn ∧ t = .long ∧ ∃ z, w = .long z) ∨ (i = .dreturn ∧ t = .double ∧ ∃ z, w = .double z) ∨ (i = .freturn ∧ t = .float ∧ ∃ z, w = .float z) ∨ (i = .areturn ∧ t.isReference = true ∧ w.isRef = true))
    (hlk : meth.locks = false) {pc : Nat} {Ls : Array Slot} {rest : List Value} (hd : decode c.code pc = .ok (i, 1)) (eT : T.heap = h) (hq : Q (some w) h locs) (hc : cells ≤ C) (hs : slots ≤ D) :
    own_Run p e below (own_Fin s below C D Q) (T.setTop (mkF m pc Ls (w :: rest))) := by
  obtain ⟨fs, hr, hrun, hended, hW, hsame⟩ := X.leave (v := some w) (fun q => by rw [hret] at q; cases q) hlk
  exact ⟨_, retOut X hx hret hn hi hd hr, hrun, _, _, hended, by show Q _ T.heap _; rw [eT]; exact hq, ⟨_, rfl⟩, hW, hsame.mono hc hs⟩
/-- who pays a call -/
def own_Bk (l : Launch) (R : Room) (p : Program) (e : Env) (below : List Frame) (s : State) (args : Array Value) (y : MethodName) (W : Nat) (as : Array Value) (h : Heap) (cc ss : Nat) (Q : Option Value → Heap → List Loc → Prop) : Prop :=
  Back l R p e below s args y 3 W (fun A a => a = as ∧ A.U.heap = h ∧ A.cells + cc ≤ R.cells ∧ A.slots + ss ≤ R.slots) (fun A _ v B => ∃ L, Q v B.U.heap L ∧ B.locs = A.locs ++ L ∧ B.cells = A.cells + cc ∧ B.slots = A.slots + ss)
theorem own_bk {y : MethodName} {bytes : ByteArray} {maxL : Nat} {ret : Option FieldType} {rm : Room} {W : Nat} {as : Array Value} (hM : own_Met l Z y bytes maxL ret rm as h Q) (hZ : Z.Warmed39 s.vm) (wc : (Jvm.Cond.code y bytes maxL ret).before a0 Z = true) (wz : (Jvm.Cond.initialized y.cls).before a0 Z = true) (hf : rm.frames + 1 ≤ R.frames) (hl : W + (maxL + 11) + rm.locals ≤ R.locals) :
    own_Bk l R p e below s args y W as h rm.cells rm.slots Q := backOf (W := W) (hM []) hZ wc wz hf hl
/-- a static method by its contract -/
theorem own_callS (X : Stand p l e R s m args below meth c T locs cells slots) (hx : p.tables.exec = Jvm.exec) (hZ : Z.Warmed39 s.vm) {own : String} {index : Nat} {y : MethodName} {bytes : ByteArray} {maxL : Nat} {ret : Option FieldType} {cc ss : Nat}
    (hown : s.vm.findClass own = some m.cls) (w1 : (Jvm.Cond.methodLink own index y).before a0 Z = true) (w2 : (Jvm.Cond.static y).before a0 Z = true) (w3 : (Jvm.Cond.initialized y.cls).before a0 Z = true) (w4 : (Jvm.Cond.code y bytes maxL ret).before a0 Z = true)
    (hy : y.cls ≠ "java/lang/invoke/MethodHandle" ∧ y.cls ≠ "java/lang/invoke/VarHandle") {W : Nat} {argsL rest : List Value} (hK : own_Bk l R p e below s args y W argsL.toArray h cc ss Q) (eT : T.heap = h)
    {g : JFrame} (hg : g.method = m) (hsize : g.locals.size = c.maxLocals) (hlen : ∀ sig, parseMethodDescriptor y.desc = some sig → argsL.length = sig.parameters.length)
    (hstack : g.stack = argsL.reverse ++ rest) (hW : 2 * g.monitorRoom + (rest.map fun v => v.category).sum ≤ W) (hdg : decode c.code g.pc = .ok (.invokestatic index, 3))
    (hcl : cells + cc ≤ R.cells) (hsl : slots + ss ≤ R.slots)
    (k : ∀ v T' h' L, Stand p l e R s m args below meth c T' (locs ++ L) (cells + cc) (slots + ss) → T'.heap = h' → Q v h' L → own_Run p e below Φ (T'.setTop { g with pc := g.pc + 3, stack := v.toList ++ rest })) : own_Run p e below Φ (T.setTop g) := by
  obtain ⟨v, _, ⟨T', L', k', n'⟩, -, X', ⟨Lc, hQ, l1, y1, z1⟩, st⟩ := Jvm.LawKit.callS X hx (y := y) hown (mvT hZ w1) (mvT hZ w2) (mvT hZ w3) (mvT hZ w4) hy hK hg hsize hlen hstack hW hdg (fun _ _ => ⟨rfl, eT, hcl, hsl⟩)
  dsimp only [Pt.U, Pt.locs, Pt.cells, Pt.slots] at X' l1 y1 z1 st hQ
  subst l1 y1 z1
  exact own_go st (k v T' _ Lc X' rfl hQ)
/-- a constructor by its contract -/
theorem own_callI (X : Stand p l e R s m args below meth c T locs cells slots) (hx : p.tables.exec = Jvm.exec) (hZ : Z.Warmed39 s.vm) {own : String} {index : Nat} {y : MethodName} {bytes : ByteArray} {maxL : Nat} {cc ss : Nat} (hy1 : y.name = "<init>")
    (hown : s.vm.findClass own = some m.cls) (w1 : (Jvm.Cond.methodLink own index y).before a0 Z = true) (w2 : (Jvm.Cond.instanceMethod y).before a0 Z = true) (w4 : (Jvm.Cond.code y bytes maxL none).before a0 Z = true)
    (hy : y.cls ≠ "java/lang/invoke/MethodHandle" ∧ y.cls ≠ "java/lang/invoke/VarHandle") {W : Nat} {a : Addr} {argsL rest : List Value} (hK : own_Bk l R p e below s args y W (.ref a :: argsL).toArray h cc ss Q) (eT : T.heap = h)
    {g : JFrame} (hg : g.method = m) (hsize : g.locals.size = c.maxLocals) (hlen : ∀ sig, parseMethodDescriptor y.desc = some sig → argsL.length = sig.parameters.length)
    (hstack : g.stack = argsL.reverse ++ .ref a :: rest) (hW : 2 * g.monitorRoom + (rest.map fun v => v.category).sum ≤ W) (hdg : decode c.code g.pc = .ok (.invokespecial index, 3))
    (hcl : cells + cc ≤ R.cells) (hsl : slots + ss ≤ R.slots)
    (k : ∀ v T' h' L, Stand p l e R s m args below meth c T' (locs ++ L) (cells + cc) (slots + ss) → T'.heap = h' → Q v h' L → own_Run p e below Φ (T'.setTop { g with pc := g.pc + 3, stack := v.toList ++ rest })) : own_Run p e below Φ (T.setTop g) := by
  obtain ⟨v, _, ⟨T', L', k', n'⟩, -, X', ⟨Lc, hQ, l1, y1, z1⟩, st⟩ := X.specialBack hx (y := y) hy1 hown (mvT hZ w1) (mvT hZ w2) (mvT hZ w4) hy hK hg hsize (Steps.refl _) (a := a) hlen hstack hW hdg (fun _ _ => ⟨rfl, eT, hcl, hsl⟩)
  dsimp only [Pt.U, Pt.locs, Pt.cells, Pt.slots] at X' l1 y1 z1 st hQ
  subst l1 y1 z1
  exact own_via st (k v T' _ Lc X' rfl hQ)
/-- an instance method by the contract of the body that the receiver's class selects -/
theorem own_callV (X : Stand p l e R s m args below meth c T locs cells slots) (hx : p.tables.exec = Jvm.exec) (hZ : Z.Warmed39 s.vm) {own C : String} {index : Nat} {y z : MethodName} {cc ss : Nat}
    (hown : s.vm.findClass own = some m.cls) (w1 : (Jvm.Cond.methodLink own index y).before a0 Z = true) (w2 : (Jvm.Cond.declares y).before a0 Z = true) (hnf : NotFace s y) (w3 : (Jvm.Cond.selects C y z).before a0 Z = true) (w4 : (Jvm.Cond.instanceMethod z).before a0 Z = true)
    (hy : y.cls ≠ "java/lang/invoke/MethodHandle" ∧ y.cls ≠ "java/lang/invoke/VarHandle") {W : Nat} {a : Addr} {argsL rest : List Value} (hK : own_Bk l R p e below s args z W (.ref a :: argsL).toArray h cc ss Q) (eT : T.heap = h) (E : Exa Z h a C)
    {g : JFrame} (hg : g.method = m) (hsize : g.locals.size = c.maxLocals) (hlen : ∀ sig, parseMethodDescriptor y.desc = some sig → argsL.length = sig.parameters.length)
    (hstack : g.stack = argsL.reverse ++ .ref a :: rest) (hW : 2 * g.monitorRoom + (rest.map fun v => v.category).sum ≤ W) (hdg : decode c.code g.pc = .ok (.invokevirtual index, 3))
    (hcl : cells + cc ≤ R.cells) (hsl : slots + ss ≤ R.slots)
    (k : ∀ v T' h' L, Stand p l e R s m args below meth c T' (locs ++ L) (cells + cc) (slots + ss) → T'.heap = h' → Q v h' L → own_Run p e below Φ (T'.setTop { g with pc := g.pc + 3, stack := v.toList ++ rest })) : own_Run p e below Φ (T.setTop g) := by
  obtain ⟨cq, kq, qa, qb, qc⟩ := isOf hZ eT E
  obtain ⟨v, _, ⟨T', L', k', n'⟩, -, X', ⟨Lc, hQ, l1, y1, z1⟩, st⟩ := X.virtualBack hx (y := y) (z := z) hown (mvT hZ w1) (mvT hZ w2) hnf (mvT hZ w3) (mvT hZ w4) hy hK qa qc hg hsize (Steps.refl _) hlen hstack hW hdg (fun _ _ => ⟨rfl, eT, hcl, hsl⟩)
  dsimp only [Pt.U, Pt.locs, Pt.cells, Pt.slots] at X' l1 y1 z1 st hQ
  subst l1 y1 z1
  exact own_via st (k v T' _ Lc X' rfl hQ)
/-- an instance method that a superclass declares -/
theorem own_callU (X : Stand p l e R s m args below meth c T locs cells slots) (hx : p.tables.exec = Jvm.exec) (hZ : Z.Warmed39 s.vm) {own C owner : String} {index : Nat} {y z : MethodName} {cc ss : Nat}
    (hown : s.vm.findClass own = some m.cls) (w1 : (Jvm.Cond.methodLink own index y).before a0 Z = true) (w0 : (Jvm.Cond.sameMethod y.cls owner y.name y.desc).before a0 Z = true) (w2 : (Jvm.Cond.declares ⟨owner, y.name, y.desc⟩).before a0 Z = true) (w3 : (Jvm.Cond.selects C y z).before a0 Z = true) (w4 : (Jvm.Cond.instanceMethod z).before a0 Z = true)
    (hy : owner ≠ "java/lang/invoke/MethodHandle" ∧ owner ≠ "java/lang/invoke/VarHandle") {W : Nat} {a : Addr} {argsL rest : List Value} (hK : own_Bk l R p e below s args z W (.ref a :: argsL).toArray h cc ss Q) (eT : T.heap = h) (E : Exa Z h a C)
    {g : JFrame} (hg : g.method = m) (hsize : g.locals.size = c.maxLocals) (hlen : ∀ sig, parseMethodDescriptor y.desc = some sig → argsL.length = sig.parameters.length)
    (hstack : g.stack = argsL.reverse ++ .ref a :: rest) (hW : 2 * g.monitorRoom + (rest.map fun v => v.category).sum ≤ W) (hdg : decode c.code g.pc = .ok (.invokevirtual index, 3))
    (hcl : cells + cc ≤ R.cells) (hsl : slots + ss ≤ R.slots)
    (k : ∀ v T' h' L, Stand p l e R s m args below meth c T' (locs ++ L) (cells + cc) (slots + ss) → T'.heap = h' → Q v h' L → own_Run p e below Φ (T'.setTop { g with pc := g.pc + 3, stack := v.toList ++ rest })) : own_Run p e below Φ (T.setTop g) := by
  obtain ⟨cq, kq, qa, qb, qc⟩ := isOf hZ eT E
  obtain ⟨v, _, ⟨T', L', k', n'⟩, -, X', ⟨Lc, hQ, l1, y1, z1⟩, st⟩ := X.virtualBackUp hx (x := y) (y := z) hown (mvT hZ w1) (mvT hZ w0) (mvT hZ w2) hy (mvT hZ w3) (mvT hZ w4) hK qa qc hg hsize (Steps.refl _) hlen hstack hW hdg (fun _ _ => ⟨rfl, eT, hcl, hsl⟩)
  dsimp only [Pt.U, Pt.locs, Pt.cells, Pt.slots] at X' l1 y1 z1 st hQ
  subst l1 y1 z1
  exact own_via st (k v T' _ Lc X' rfl hQ)
/-- a private method by its contract -/
theorem own_callP (X : Stand p l e R s m args below meth c T locs cells slots) (hx : p.tables.exec = Jvm.exec) (hZ : Z.Warmed39 s.vm) {own C : String} {index : Nat} {y : MethodName} {bytes : ByteArray} {maxL : Nat} {ret : Option FieldType} {cc ss : Nat}
    (hown : s.vm.findClass own = some m.cls) (w1 : (Jvm.Cond.methodLink own index y).before a0 Z = true) (w2 : (Jvm.Cond.instanceMethod y).before a0 Z = true) (w3 : (Jvm.Cond.selects y.cls y y).before a0 Z = true) (w4 : (Jvm.Cond.privateMethod y).before a0 Z = true) (w6 : (Jvm.Cond.code y bytes maxL ret).before a0 Z = true)
    (hy : y.cls ≠ "java/lang/invoke/MethodHandle" ∧ y.cls ≠ "java/lang/invoke/VarHandle") {W : Nat} {a : Addr} {argsL rest : List Value} (hK : own_Bk l R p e below s args y W (.ref a :: argsL).toArray h cc ss Q) (eT : T.heap = h) (E : Exa Z h a C)
    {g : JFrame} (hg : g.method = m) (hsize : g.locals.size = c.maxLocals) (hlen : ∀ sig, parseMethodDescriptor y.desc = some sig → argsL.length = sig.parameters.length)
    (hstack : g.stack = argsL.reverse ++ .ref a :: rest) (hW : 2 * g.monitorRoom + (rest.map fun v => v.category).sum ≤ W) (hdg : decode c.code g.pc = .ok (.invokevirtual index, 3))
    (hcl : cells + cc ≤ R.cells) (hsl : slots + ss ≤ R.slots)
    (k : ∀ v T' h' L, Stand p l e R s m args below meth c T' (locs ++ L) (cells + cc) (slots + ss) → T'.heap = h' → Q v h' L → own_Run p e below Φ (T'.setTop { g with pc := g.pc + 3, stack := v.toList ++ rest })) : own_Run p e below Φ (T.setTop g) := by
  obtain ⟨cq, q1, q2⟩ := E.cell
  obtain ⟨v, _, ⟨T', L', k', n'⟩, -, X', ⟨Lc, hQ, l1, y1, z1⟩, st⟩ := X.privateBack hx (y := y) hown (mvT hZ w1) (mvT hZ w2) (mvT hZ w3) (Cond.privateMethod_at (mvP hZ w4 (args := #[]))) (mvT hZ w6) hy hK hg hsize (Steps.refl _) (a := a) (by rw [eT]; exact q1) q2 hlen hstack hW hdg (fun _ _ => ⟨rfl, eT, hcl, hsl⟩)
  dsimp only [Pt.U, Pt.locs, Pt.cells, Pt.slots] at X' l1 y1 z1 st hQ
  subst l1 y1 z1
  exact own_via st (k v T' _ Lc X' rfl hQ)
/-- arrays: reading -/
theorem own_iaload (X : Stand p l e R s m args below meth c T locs cells slots) (hx : p.tables.exec = Jvm.exec) (hZ : Z.Warmed39 s.vm) (eT : T.heap = h) {a : Addr} {k : ClassId} {z j : Int32} {vs : List Value} {dv v : Value} (V : Arv Z h a k .int z vs dv) (hj : ¬ j < 0 ∧ j < z) (hv : vs.getD j.toNatClampNeg dv = v)
    {g : JFrame} (hg : g.method = m) {rest : List Value} (hs : g.stack = .int j :: .ref a :: rest) (hd : decode c.code g.pc = .ok (.iaload, 1)) (r : own_Run p e below Φ (T.setTop { g with pc := g.pc + 1, stack := v :: rest })) : own_Run p e below Φ (T.setTop g) := by
  obtain ⟨cl, A, -, S, -, H, -⟩ := V
  exact own_go (fun t q => X.iaload hx (j := j) (v := v) (by rw [eT]; exact A.1) (State.isArrayOf_alike hZ.alike A.2.1) A.2.2 (inb_of S hj) (Has.at H (inb_of S hj) hv) hg hs hd t q) r
theorem own_laload (X : Stand p l e R s m args below meth c T locs cells slots) (hx : p.tables.exec = Jvm.exec) (hZ : Z.Warmed39 s.vm) (eT : T.heap = h) {a : Addr} {k : ClassId} {z j : Int32} {vs : List Value} {dv v : Value} (V : Arv Z h a k .long z vs dv) (hj : ¬ j < 0 ∧ j < z) (hv : vs.getD j.toNatClampNeg dv = v)
    {g : JFrame} (hg : g.method = m) {rest : List Value} (hs : g.stack = .int j :: .ref a :: rest) (hd : decode c.code g.pc = .ok (.laload, 1)) (r : own_Run p e below Φ (T.setTop { g with pc := g.pc + 1, stack := v :: rest })) : own_Run p e below Φ (T.setTop g) := by
  obtain ⟨cl, A, -, S, -, H, -⟩ := V
  exact own_go (fun t q => X.laload hx (j := j) (v := v) (by rw [eT]; exact A.1) (State.isArrayOf_alike hZ.alike A.2.1) A.2.2 (inb_of S hj) (Has.at H (inb_of S hj) hv) hg hs hd t q) r
theorem own_caload (X : Stand p l e R s m args below meth c T locs cells slots) (hx : p.tables.exec = Jvm.exec) (hZ : Z.Warmed39 s.vm) (eT : T.heap = h) {a : Addr} {k : ClassId} {z j : Int32} {vs : List Value} {dv v : Value} (V : Arv Z h a k .char z vs dv) (hj : ¬ j < 0 ∧ j < z) (hv : vs.getD j.toNatClampNeg dv = v)
    {g : JFrame} (hg : g.method = m) {rest : List Value} (hs : g.stack = .int j :: .ref a :: rest) (hd : decode c.code g.pc = .ok (.caload, 1)) (r : own_Run p e below Φ (T.setTop { g with pc := g.pc + 1, stack := v :: rest })) : own_Run p e below Φ (T.setTop g) := by
  obtain ⟨cl, A, -, S, -, H, -⟩ := V
  exact own_go (fun t q => X.caload hx (j := j) (v := v) (by rw [eT]; exact A.1) (State.isArrayOf_alike hZ.alike A.2.1) A.2.2 (inb_of S hj) (Has.at H (inb_of S hj) hv) hg hs hd t q) r
theorem own_baload (X : Stand p l e R s m args below meth c T locs cells slots) (hx : p.tables.exec = Jvm.exec) (hZ : Z.Warmed39 s.vm) (eT : T.heap = h) {a : Addr} {k : ClassId} {z j : Int32} {vs : List Value} {dv v : Value} (V : Arv Z h a k .byte z vs dv) (hj : ¬ j < 0 ∧ j < z) (hv : vs.getD j.toNatClampNeg dv = v)
    {g : JFrame} (hg : g.method = m) {rest : List Value} (hs : g.stack = .int j :: .ref a :: rest) (hd : decode c.code g.pc = .ok (.baload, 1)) (r : own_Run p e below Φ (T.setTop { g with pc := g.pc + 1, stack := v :: rest })) : own_Run p e below Φ (T.setTop g) := by
  obtain ⟨cl, A, -, S, -, H, -⟩ := V
  exact own_go (fun t q => X.baloadBytes hx (j := j) (v := v) (by rw [eT]; exact A.1) (State.isArrayOf_alike hZ.alike A.2.1) A.2.2 (inb_of S hj) (Has.at H (inb_of S hj) hv) hg hs hd t q) r
theorem own_arrlen (X : Stand p l e R s m args below meth c T locs cells slots) (hx : p.tables.exec = Jvm.exec) (hZ : Z.Warmed39 s.vm) (eT : T.heap = h) {a : Addr} {k : ClassId} {ty : FieldType} {z : Int32} {vs : List Value} {dv : Value} (V : Arv Z h a k ty z vs dv)
    {g : JFrame} (hg : g.method = m) {rest : List Value} (hs : g.stack = .ref a :: rest) (hd : decode c.code g.pc = .ok (.arraylength, 1)) (r : own_Run p e below Φ (T.setTop { g with pc := g.pc + 1, stack := .int z :: rest })) : own_Run p e below Φ (T.setTop g) := by
  obtain ⟨cl, A, -, S, M, -, -⟩ := V
  refine own_go (fun t q => X.arraylength hx (by rw [eT]; exact A.1) (State.isArrayOf_alike hZ.alike A.2.1) hg hs hd t q) ?_
  rw [len_of S M]; exact r
/-- arrays: writing -/
theorem own_iastore (X : Stand p l e R s m args below meth c T locs cells slots) (hx : p.tables.exec = Jvm.exec) (hZ : Z.Warmed39 s.vm) (eT : T.heap = h) {a : Addr} {k : ClassId} {z j x : Int32} {vs : List Value} {dv : Value} (V : Arv Z h a k .int z vs dv) (hj : ¬ j < 0 ∧ j < z) (i : Nat) (hi : j.toNatClampNeg = i) (hl : i < vs.length)
    {g : JFrame} (hg : g.method = m) {rest : List Value} (hs : g.stack = .int x :: .int j :: .ref a :: rest) (hd : decode c.code g.pc = .ok (.iastore, 1))
    (r : ∀ T' h', Stand p l e R s m args below meth c T' (locs ++ [⟨a, j.toNatClampNeg⟩]) cells slots → T'.heap = h' → Wr h h' a j.toNatClampNeg (.int x) → Arv Z h' a k .int z (vs.set i (.int x)) dv → own_Run p e below Φ (T'.setTop { g with pc := g.pc + 1, stack := rest })) : own_Run p e below Φ (T.setTop g) := by
  obtain ⟨cl, A, q, S, N, H, G⟩ := V
  obtain ⟨T', h', X', e', W, st⟩ := stI X hx hZ eT A (j := j) (inb_of S hj) hg hs hd
  exact own_go st (r T' h' X' e' W (Arv.set A q S N H G rfl W i hi hl))
theorem own_lastore (X : Stand p l e R s m args below meth c T locs cells slots) (hx : p.tables.exec = Jvm.exec) (hZ : Z.Warmed39 s.vm) (eT : T.heap = h) {a : Addr} {k : ClassId} {z j : Int32} {x : Int64} {vs : List Value} {dv : Value} (V : Arv Z h a k .long z vs dv) (hj : ¬ j < 0 ∧ j < z) (i : Nat) (hi : j.toNatClampNeg = i) (hl : i < vs.length)
    {g : JFrame} (hg : g.method = m) {rest : List Value} (hs : g.stack = .long x :: .int j :: .ref a :: rest) (hd : decode c.code g.pc = .ok (.lastore, 1))
    (r : ∀ T' h', Stand p l e R s m args below meth c T' (locs ++ [⟨a, j.toNatClampNeg⟩]) cells slots → T'.heap = h' → Wr h h' a j.toNatClampNeg (.long x) → Arv Z h' a k .long z (vs.set i (.long x)) dv → own_Run p e below Φ (T'.setTop { g with pc := g.pc + 1, stack := rest })) : own_Run p e below Φ (T.setTop g) := by
  obtain ⟨cl, A, q, S, N, H, G⟩ := V
  obtain ⟨T', h', X', e', W, st⟩ := stJ X hx hZ eT A (j := j) (inb_of S hj) hg hs hd
  exact own_go st (r T' h' X' e' W (Arv.set A q S N H G rfl W i hi hl))
theorem own_bastore (X : Stand p l e R s m args below meth c T locs cells slots) (hx : p.tables.exec = Jvm.exec) (hZ : Z.Warmed39 s.vm) (eT : T.heap = h) {a : Addr} {k : ClassId} {z j x : Int32} {vs : List Value} {dv : Value} (V : Arv Z h a k .byte z vs dv) (hj : ¬ j < 0 ∧ j < z) (i : Nat) (hi : j.toNatClampNeg = i) (hl : i < vs.length)
    {g : JFrame} (hg : g.method = m) {rest : List Value} (hs : g.stack = .int x :: .int j :: .ref a :: rest) (hd : decode c.code g.pc = .ok (.bastore, 1))
    (r : ∀ T' h', Stand p l e R s m args below meth c T' (locs ++ [⟨a, j.toNatClampNeg⟩]) cells slots → T'.heap = h' → Wr h h' a j.toNatClampNeg (.int x.toInt8.toInt32) → Arv Z h' a k .byte z (vs.set i (.int x.toInt8.toInt32)) dv → own_Run p e below Φ (T'.setTop { g with pc := g.pc + 1, stack := rest })) : own_Run p e below Φ (T.setTop g) := by
  obtain ⟨cl, A, q, S, N, H, G⟩ := V
  obtain ⟨T', h', X', e', W, st⟩ := stB X hx hZ eT A (j := j) (inb_of S hj) hg hs hd
  exact own_go st (r T' h' X' e' W (Arv.set A q S N H G (fits_nar_byte _) W i hi hl))
theorem own_castore (X : Stand p l e R s m args below meth c T locs cells slots) (hx : p.tables.exec = Jvm.exec) (hZ : Z.Warmed39 s.vm) (eT : T.heap = h) {a : Addr} {k : ClassId} {z j x : Int32} {vs : List Value} {dv : Value} (V : Arv Z h a k .char z vs dv) (hj : ¬ j < 0 ∧ j < z) (i : Nat) (hi : j.toNatClampNeg = i) (hl : i < vs.length)
    {g : JFrame} (hg : g.method = m) {rest : List Value} (hs : g.stack = .int x :: .int j :: .ref a :: rest) (hd : decode c.code g.pc = .ok (.castore, 1))
    (r : ∀ T' h', Stand p l e R s m args below meth c T' (locs ++ [⟨a, j.toNatClampNeg⟩]) cells slots → T'.heap = h' → Wr h h' a j.toNatClampNeg (.int (nar .char x)) → Arv Z h' a k .char z (vs.set i (.int (nar .char x))) dv → own_Run p e below Φ (T'.setTop { g with pc := g.pc + 1, stack := rest })) : own_Run p e below Φ (T.setTop g) := by
  obtain ⟨cl, A, q, S, N, H, G⟩ := V
  obtain ⟨T', h', X', e', W, st⟩ := stC X hx hZ eT A (j := j) (inb_of S hj) hg hs hd
  exact own_go st (r T' h' X' e' W (Arv.set A q S N H G (fits_nar_char _) W i hi hl))
theorem own_newP (X : Stand p l e R s m args below meth c T locs cells slots) (hx : p.tables.exec = Jvm.exec) (hZ : Z.Warmed39 s.vm) {aty : ArrayType} (w : (Jvm.Cond.arrayClass (newarray.typeOf aty)).before a0 Z = true) (eT : T.heap = h) {g : JFrame} (hg : g.method = m) (hd : decode c.code g.pc = .ok (.newarray aty, 2)) {n : Int32} {rest : List Value} (hs : g.stack = .int n :: rest)
    (hn : ¬ n < 0) (cap : Nat) (hcap : n.toNatClampNeg ≤ cap) (hb : cap * 8 ≤ 536870912) (hc : cells + 1 ≤ R.cells) (hl : slots + cap ≤ R.slots) (N : Nat)
    (r : ∀ T' h' cA a, Stand p l e R s m args below meth c T' locs (cells + 1) (slots + cap) → T'.heap = h' → Ext h h' → a = h.size → Arv Z h' a cA (newarray.typeOf aty) n (List.replicate N (defaultValue (newarray.typeOf aty))) (defaultValue (newarray.typeOf aty)) → own_Run p e below Φ (T'.setTop { g with pc := g.pc + 2, stack := .ref a :: rest })) : own_Run p e below Φ (T.setTop g) := by
  obtain ⟨T', h', cA, X', e', E, A, st⟩ := newP X hx hZ w eT hg hd hs hn hcap hb hc hl
  have V := Arv.new A hn
  have q : ∀ i, (List.replicate N (defaultValue (newarray.typeOf aty))).getD i (defaultValue (newarray.typeOf aty)) = ([] : List Value).getD i (defaultValue (newarray.typeOf aty)) := pad_rep [] (defaultValue (newarray.typeOf aty)) N
  exact own_go st (r T' h' cA h.size X' e' E rfl (V.pad q))
theorem own_newRA (X : Stand p l e R s m args below meth c T locs cells slots) (hx : p.tables.exec = Jvm.exec) (hZ : Z.Warmed39 s.vm) {own C : String} {ty : FieldType} {index : Nat} (hown : s.vm.findClass own = some m.cls) (hC : (FieldType.array ty).toString = C) (w1 : (Jvm.Cond.classLink own index C).before a0 Z = true) (w2 : (Jvm.Cond.arrayOver (.array ty)).before a0 Z = true) (eT : T.heap = h) {g : JFrame} (hg : g.method = m) (hd : decode c.code g.pc = .ok (.anewarray index, 3)) {n : Int32} {rest : List Value} (hs : g.stack = .int n :: rest)
    (hn : ¬ n < 0) (cap : Nat) (hcap : n.toNatClampNeg ≤ cap) (hb : cap * 8 ≤ 536870912) (hc : cells + 1 ≤ R.cells) (hl : slots + cap ≤ R.slots) (N : Nat)
    (r : ∀ T' h' cA a, Stand p l e R s m args below meth c T' locs (cells + 1) (slots + cap) → T'.heap = h' → Ext h h' → a = h.size → Arv Z h' a cA (.array ty) n (List.replicate N .null) .null → OvrA Z cA ty C → own_Run p e below Φ (T'.setTop { g with pc := g.pc + 3, stack := .ref a :: rest })) : own_Run p e below Φ (T.setTop g) := by
  obtain ⟨T', h', cA, X', e', E, A, -, O, st⟩ := newRA X hx hZ hown hC w1 w2 eT hg hd hs hn hcap hb hc hl rfl
  have V := Arv.new A hn
  have q : ∀ i, (List.replicate N Value.null).getD i Value.null = ([] : List Value).getD i Value.null := pad_rep [] Value.null N
  exact own_go st (r T' h' cA h.size X' e' E rfl (V.pad q) O)
theorem own_newPE (X : Stand p l e R s m args below meth c T locs cells slots) (hx : p.tables.exec = Jvm.exec) (hZ : Z.Warmed39 s.vm) {aty : ArrayType} (w : (Jvm.Cond.arrayClass (newarray.typeOf aty)).before a0 Z = true) (eT : T.heap = h) {g : JFrame} (hg : g.method = m) (hd : decode c.code g.pc = .ok (.newarray aty, 2)) {n : Int32} {rest : List Value} (hs : g.stack = .int n :: rest)
    (hn : ¬ n < 0) (cap : Nat) (hcap : n.toNatClampNeg ≤ cap) (hb : cap * 8 ≤ 536870912) (hc : cells + 1 ≤ R.cells) (hl : slots + cap ≤ R.slots) (N : Nat) (ad : String) (had : "[" ++ (newarray.typeOf aty).toString = ad)
    (r : ∀ T' h' cA a, Stand p l e R s m args below meth c T' locs (cells + 1) (slots + cap) → T'.heap = h' → Ext h h' → a = h.size → Arv Z h' a cA (newarray.typeOf aty) n (List.replicate N (defaultValue (newarray.typeOf aty))) (defaultValue (newarray.typeOf aty)) → Exa Z h' a ad → own_Run p e below Φ (T'.setTop { g with pc := g.pc + 2, stack := .ref a :: rest })) : own_Run p e below Φ (T.setTop g) := by
  obtain ⟨T', h', cA, X', e', E, A, Ex, st⟩ := newPE X hx hZ w eT hg hd hs hn hcap hb hc hl had
  have V := Arv.new A hn
  have q : ∀ i, (List.replicate N (defaultValue (newarray.typeOf aty))).getD i (defaultValue (newarray.typeOf aty)) = ([] : List Value).getD i (defaultValue (newarray.typeOf aty)) := pad_rep [] (defaultValue (newarray.typeOf aty)) N
  exact own_go st (r T' h' cA h.size X' e' E rfl (V.pad q) Ex)
theorem own_aastore (X : Stand p l e R s m args below meth c T locs cells slots) (hx : p.tables.exec = Jvm.exec) (hZ : Z.Warmed39 s.vm) (eT : T.heap = h) {a y : Addr} {k : ClassId} {t0 : FieldType} {C C' : String} {z j : Int32} {vs : List Value} {dv : Value} (V : Arv Z h a k (.array t0) z vs dv) (O : OvrA Z k t0 C) (E : Exa Z h y C') (wc : (Jvm.Cond.castable C' C).before a0 Z = true) (hj : ¬ j < 0 ∧ j < z) (i : Nat) (hi : j.toNatClampNeg = i) (hl : i < vs.length)
    {g : JFrame} (hg : g.method = m) {rest : List Value} (hs : g.stack = .ref y :: .int j :: .ref a :: rest) (hd : decode c.code g.pc = .ok (.aastore, 1))
    (r : ∀ T' h', Stand p l e R s m args below meth c T' (locs ++ [⟨a, j.toNatClampNeg⟩]) cells slots → T'.heap = h' → Wr h h' a j.toNatClampNeg (.ref y) → Arv Z h' a k (.array t0) z (vs.set i (.ref y)) dv → own_Run p e below Φ (T'.setTop { g with pc := g.pc + 1, stack := rest })) : own_Run p e below Φ (T.setTop g) := by
  obtain ⟨cl, A, q, S, N, H, G⟩ := V
  obtain ⟨T', h', X', e', W, st⟩ := stR X hx hZ eT A (j := j) (inb_of S hj) rfl (Sto.ofVA A q O (Ins.of_exa E wc)) hg hs hd
  exact own_go st (r T' h' X' e' W (Arv.set A q S N H G rfl W i hi hl))
theorem own_aaload (X : Stand p l e R s m args below meth c T locs cells slots) (hx : p.tables.exec = Jvm.exec) (hZ : Z.Warmed39 s.vm) (eT : T.heap = h) {a : Addr} {k : ClassId} {ty : FieldType} {z j : Int32} {vs : List Value} {dv v : Value} (V : Arv Z h a k ty z vs dv) (hty : ty.isReference = true) (hj : ¬ j < 0 ∧ j < z) (hv : vs.getD j.toNatClampNeg dv = v)
    {g : JFrame} (hg : g.method = m) {rest : List Value} (hs : g.stack = .int j :: .ref a :: rest) (hd : decode c.code g.pc = .ok (.aaload, 1)) (r : own_Run p e below Φ (T.setTop { g with pc := g.pc + 1, stack := v :: rest })) : own_Run p e below Φ (T.setTop g) := by
  obtain ⟨cl, A, -, S, -, H, -⟩ := V
  exact own_go (fun t q => X.aaload hx (j := j) (v := v) (by rw [eT]; exact A.1) (State.isArrayOf_alike hZ.alike A.2.1) hty A.2.2 (inb_of S hj) (Has.at H (inb_of S hj) hv) hg hs hd t q) r
theorem own_le {a b c d : Nat} (h1 : a ≤ b) (h2 : b + c ≤ d) : a + c ≤ d := Nat.le_trans (Nat.add_le_add_right h1 c) h2
/-- the case's words on statics -/
theorem own_eqI {args : Array Value} {first s : State} {o : Option Outcome} {idx : List Nat} {t : Term} {k : Int32} (h : (Jvm.Cond.eq t (.int k)).value args first o s idx = some true) : t.eval args first o idx s = some (.int k) := by
  cases ht : t.eval args first o idx s with
  | none => simp [Cond.value, ht] at h
  | some x => cases x <;> simp [Cond.value, Term.eval, ht] at h ⊢; exact h
theorem own_fldI {args : Array Value} {t : Term} {x : Addr} {C n d : String} {k : Int32} (ht : t.eval args Z none [] Z = some (.ref x)) (h : (Jvm.Cond.eq (.field t C n d) (.int k)).value args Z none Z [] = some true) : Fld Z Z.heap x C n d (.int k) := Fld.start ((fld_at ht).symm.trans (own_eqI h))
end OwnRun
def own_upd (f : Int32 → Int32) (i : Int32) (v : Int32) : Int32 → Int32 := fun x => if x = i then v else f x
def own_z : Int32 → Int32 := fun _ => 0
def own_cl (f : Int32 → Int32) : List Value := (List.range 128).map fun i : Nat => Value.int (f (Int32.ofInt (i : Int)))
def own_mini (a b : Int32) : Int32 := if b < a then b else a
def own_maxi (a b : Int32) : Int32 := if a < b then b else a
def own_minJ (a b : Int64) : Int64 := if b < a then b else a
def own_maxJ (a b : Int64) : Int64 := if a < b then b else a
theorem own_e {f : Int32 → Int32} {i x v : Int32} (h : x = i) : own_upd f i v x = v := if_pos h
theorem own_n {f : Int32 → Int32} {i x v : Int32} (h : ¬ x = i) : own_upd f i v x = f x := if_neg h
theorem own_len (f : Int32 → Int32) : (own_cl f).length = 128 := by simp [own_cl]
theorem own_nat {p : Int32} (h : 0 ≤ p.toInt) : ((p.toNatClampNeg : Nat) : Int) = p.toInt := by simp only [Int32.toNatClampNeg]; omega
theorem own_cl_l {f : Int32 → Int32} {p : Int32} (h : 0 ≤ p.toInt ∧ p.toInt < 128) : p.toNatClampNeg < (own_cl f).length := by
  rw [own_len]; have := own_nat h.1; omega
theorem own_clD (f : Int32 → Int32) (i : Nat) : (own_cl f).getD i (.int (0 : Int32)) = if i < 128 then .int (f (Int32.ofInt (i : Int))) else .int 0 := by
  unfold own_cl
  by_cases h : i < 128
  · simp [List.getD_eq_getElem?_getD, h]
  · simp [List.getD_eq_getElem?_getD, h, List.getElem?_eq_none]
theorem own_cl_g {f : Int32 → Int32} {p : Int32} (h : 0 ≤ p.toInt ∧ p.toInt < 128) : (own_cl f).getD p.toNatClampNeg (.int (0 : Int32)) = .int (f p) := by
  have q := own_nat h.1
  rw [own_clD, if_pos (by omega), q, Int32.ofInt_toInt]
theorem own_cl_s {f : Int32 → Int32} {p : Int32} (v : Int32) (h : 0 ≤ p.toInt ∧ p.toInt < 128) : (own_cl f).set p.toNatClampNeg (.int v) = own_cl (own_upd f p v) := by
  have q := own_nat h.1
  apply List.ext_getElem
  · simp [own_cl]
  · intro n h1 h2
    have h3 : n < 128 := by simpa [own_cl] using h2
    rw [List.getElem_set]
    by_cases e : p.toNatClampNeg = n
    · rw [if_pos e]; subst e; simp only [own_cl, List.getElem_map, List.getElem_range, q, Int32.ofInt_toInt]; rw [own_e rfl]
    · rw [if_neg e]
      have e2 : ¬ Int32.ofInt (n : Int) = p := fun w => e (by
        have := congrArg Int32.toInt w
        rw [Int32.toInt_ofInt_of_le (by omega) (by omega)] at this
        omega)
      simp only [own_cl, List.getElem_map, List.getElem_range]; rw [own_n e2]
theorem own_cl_z : List.replicate 128 (Value.int (0 : Int32)) = own_cl own_z := by
  symm; rw [List.eq_replicate_iff]
  refine ⟨own_len _, fun b hb => ?_⟩
  simp only [own_cl, List.mem_map] at hb
  obtain ⟨_, _, rfl⟩ := hb; rfl
theorem own_inb {p n : Int32} (h : 0 ≤ p.toInt ∧ p.toInt < n.toInt) : ¬ p < 0 ∧ p < n := by
  simp only [Int32.lt_iff_toInt_lt, Int32.reduceToInt]; omega
def own_tr (f : Int32 → Int32) (n : Int32) : Int32 → Int32 := fun x => if x.toInt < n.toInt then f x else 0
theorem own_trE {f : Int32 → Int32} {n : Int32} (hf : ∀ x : Int32, n.toInt ≤ x.toInt → f x = 0) : own_tr f n = f := by
  funext x; unfold own_tr; split
  · rfl
  · exact (hf x (by omega)).symm
theorem own_cp {f : Int32 → Int32} {n : Int32} (h : 0 ≤ n.toInt ∧ n.toInt ≤ 126) (i : Nat) : (own_cl (own_tr f n)).getD i (.int (0 : Int32)) = ((List.replicate 128 (Value.int (0 : Int32))).take (0 : Int32).toNatClampNeg ++ (List.range n.toNatClampNeg).map (fun i => (own_cl f).getD ((0 : Int32).toNatClampNeg + i) (.int (0 : Int32))) ++ (List.replicate 128 (Value.int (0 : Int32))).drop ((0 : Int32).toNatClampNeg + n.toNatClampNeg)).getD i (.int (0 : Int32)) := by
  have q := own_nat h.1
  have z : (0 : Int32).toNatClampNeg = 0 := by decide
  rw [z, List.take_zero, List.nil_append]
  simp only [Nat.zero_add]
  by_cases hi : i < n.toNatClampNeg
  · rw [List.getD_eq_getElem?_getD (l := _ ++ _), List.getElem?_append_left (by simpa using hi)]
    rw [own_clD, if_pos (by omega)]
    have e : own_tr f n (Int32.ofInt (i : Int)) = f (Int32.ofInt (i : Int)) := if_pos (by rw [Int32.toInt_ofInt_of_le (by omega) (by omega)]; omega)
    rw [e]
    simp only [List.getElem?_map, List.getElem?_range hi, Option.map_some, Option.getD_some]
    rw [own_clD, if_pos (by omega)]
  · rw [List.getD_eq_getElem?_getD (l := _ ++ _), List.getElem?_append_right (by simpa using hi), own_clD]
    have r : ∀ m : Nat, ((List.replicate 128 (Value.int (0 : Int32))).drop n.toNatClampNeg)[m]?.getD (Value.int (0 : Int32)) = Value.int (0 : Int32) := by
      intro m
      rw [List.getElem?_drop, List.getElem?_replicate]
      split <;> rfl
    rw [r]
    split
    · rename_i h3
      rw [show own_tr f n (Int32.ofInt (i : Int)) = 0 from if_neg (by rw [Int32.toInt_ofInt_of_le (by omega) (by omega)]; omega)]
    · rfl
def own_gl (n : Int32) (q : Int64) : Int32 := (own_minJ (2147483639 : Int64) (own_maxJ (q + (1 : Int64)) ((2 : Int64) * (n.toInt64)))).toInt32
theorem own_glp {n i : Int32} (h : 16 ≤ n.toInt ∧ n.toInt ≤ 63) (hi : n.toInt ≤ i.toInt ∧ i.toInt ≤ 63) : n.toInt < (own_gl n i.toInt64).toInt ∧ i.toInt < (own_gl n i.toInt64).toInt ∧ (own_gl n i.toInt64).toInt ≤ 126 ∧ (n.toInt = 16 → i.toInt ≤ 31 → (own_gl n i.toInt64).toInt = 32) := by
  have e1 := c_ladd i.toInt64 1; have e2 := c_lmul 2 n.toInt64
  rw [c_i2l] at e1 e2
  simp only [Int64.reduceToInt] at e1 e2
  have r1 := rng64 (i.toInt64 + 1); have r2 := rng64 (2 * n.toInt64)
  unfold own_gl
  generalize hm : own_maxJ (i.toInt64 + 1) (2 * n.toInt64) = mm
  have hmm : mm.toInt = 2 * n.toInt ∧ i.toInt + 1 ≤ 2 * n.toInt ∨ mm.toInt = i.toInt + 1 ∧ 2 * n.toInt ≤ i.toInt + 1 := by
    subst hm; unfold own_maxJ; split
    · rename_i q; rw [Int64.lt_iff_toInt_lt] at q; omega
    · rename_i q; rw [Int64.lt_iff_toInt_lt] at q; omega
  have hk : own_minJ 2147483639 mm = mm := by unfold own_minJ; rw [if_pos]; rw [Int64.lt_iff_toInt_lt]; simp only [Int64.reduceToInt]; omega
  rw [hk]
  have e3 := c_l2i mm; have r3 := rng32 mm.toInt32
  omega
theorem own_ad {x y : Int32} (h : -1000 ≤ x.toInt ∧ x.toInt ≤ 1000 ∧ -1000 ≤ y.toInt ∧ y.toInt ≤ 1000) : (x + y).toInt = x.toInt + y.toInt := by
  have := c_iadd x y; have := rng32 (x + y); omega
theorem own_sb {x y : Int32} : x + -y = x - y := by rw [Int32.sub_eq_add_neg]
theorem own_ng {y : Int32} (h : 0 ≤ y.toInt ∧ y.toInt ≤ 1000) : (-y).toInt = -y.toInt := by
  have := c_ineg y; have := rng32 (-y); omega
theorem own_mx {a b : Int32} (n : Int) (h : 0 ≤ a.toInt ∧ a.toInt < n) (h2 : 0 ≤ b.toInt ∧ b.toInt < n) : 0 ≤ (own_maxi a b).toInt ∧ (own_maxi a b).toInt < n := by
  unfold own_maxi; split <;> omega
theorem own_mi {a b : Int32} (h : 0 ≤ a.toInt) (h2 : 0 ≤ b.toInt) : 0 ≤ (own_mini a b).toInt ∧ (own_mini a b).toInt ≤ b.toInt := by
  unfold own_mini; split
  · omega
  · rename_i q; rw [Int32.lt_iff_toInt_lt] at q; omega
theorem own_me {a b : Int32} (h : a.toInt < b.toInt) : own_mini a b = a := by
  unfold own_mini; rw [if_neg]; rw [Int32.lt_iff_toInt_lt]; omega
theorem own_ze (a e : Int32) : own_z a + e = e := Int32.zero_add e
theorem own_finE {a b e1 e2 t : Int32} (h : a = b) (x : Int32) : own_upd (own_upd (own_upd own_z a (own_z a + e1)) b ((own_upd own_z a (own_z a + e1)) b + e2)) a ((own_upd (own_upd own_z a (own_z a + e1)) b ((own_upd own_z a (own_z a + e1)) b + e2)) a + (-t)) x = if x = a then (e1 + e2) - t else 0 := by
  subst h
  by_cases q : x = a
  · rw [own_e q, own_e rfl, own_e rfl, if_pos q, own_sb, own_ze]
  · rw [own_n q, own_n q, own_n q, if_neg q]; rfl
theorem own_finN {a b e1 e2 t : Int32} (h : ¬ a = b) (x : Int32) : own_upd (own_upd (own_upd own_z a (own_z a + e1)) b ((own_upd own_z a (own_z a + e1)) b + e2)) a ((own_upd (own_upd own_z a (own_z a + e1)) b ((own_upd own_z a (own_z a + e1)) b + e2)) a + (-t)) x = if x = a then (e1 + (0 : Int32)) - t else if x = b then e2 else 0 := by
  have h' : ¬ b = a := fun e => h e.symm
  by_cases q : x = a
  · rw [own_e q, own_n h, own_e rfl, if_pos q, own_sb, Int32.add_zero, own_ze]
  · rw [own_n q, if_neg q]
    by_cases q2 : x = b
    · rw [own_e q2, own_n h', if_pos q2]; exact Int32.zero_add e2
    · rw [own_n q2, own_n q, if_neg q2]; rfl
def own_DEG (Z : State) (h : Heap) (n0 : Nat) (a1 : Addr) (fc : Int32 → Int32) : Prop :=
  ∃ (xc : Addr) (kc : ClassId) (nc : Int32) (xw : Addr) (kw : ClassId) (nw : Int32) (gw : Int32 → Int32) (mx : Int32), n0 ≤ a1 ∧ (n0 ≤ xc) ∧ (n0 ≤ xw) ∧ (xc ≠ a1) ∧ (xw ≠ a1) ∧ (xc ≠ xw) ∧ (16 ≤ nc.toInt ∧ nc.toInt ≤ 126) ∧ (nw.toInt = 16 ∨ nw.toInt = 32) ∧ (0 ≤ mx.toInt ∧ mx.toInt < nw.toInt) ∧ (∀ x : Int32, nc.toInt ≤ x.toInt → fc x = 0) ∧ (∀ x : Int32, 0 ≤ (fc x).toInt ∧ (fc x).toInt < nw.toInt) ∧ Exa Z h a1 "com/example/hueline/hueline/model/Degrees" ∧ Fld Z h a1 "com/example/hueline/hueline/model/Degrees" "counts" "[I" (.ref xc) ∧ Fld Z h a1 "com/example/hueline/hueline/model/Degrees" "withDegree" "[I" (.ref xw) ∧ Fld Z h a1 "com/example/hueline/hueline/model/Degrees" "max" "I" (.int mx) ∧ Arv Z h xc kc .int nc (own_cl fc) (.int (0 : Int32)) ∧ Arv Z h xw kw .int nw (own_cl gw) (.int (0 : Int32))
theorem d3_0 : decode jdk_29_method_69_code 0 = .ok (.iload_n 0, 1) := by decide +kernel
theorem d3_1 : decode jdk_29_method_69_code 1 = .ok (.iload_n 1, 1) := by decide +kernel
theorem d3_2 : decode jdk_29_method_69_code 2 = .ok (.if_icmp .gt 7, 3) := by decide +kernel
theorem d3_5 : decode jdk_29_method_69_code 5 = .ok (.iload_n 0, 1) := by decide +kernel
theorem d3_6 : decode jdk_29_method_69_code 6 = .ok (.goto 4, 3) := by decide +kernel
theorem d3_9 : decode jdk_29_method_69_code 9 = .ok (.iload_n 1, 1) := by decide +kernel
theorem d3_10 : decode jdk_29_method_69_code 10 = .ok (.ireturn, 1) := by decide +kernel
theorem ef_3_II (m : MethodId) (x0 : Int32) (x1 : Int32) : entryFrame m #[(.int x0), (.int x1)] 2 = mkF m 0 #[.val (.int x0), .val (.int x1)] [] := by first | (simp [entryFrame, mkF, argsToLocals, Value.category]; done) | rfl
set_option maxRecDepth 65536 in
set_option maxHeartbeats 40000000 in
theorem rm_mni (l : Launch) (Z : State) (a0 : Array Value) (hw : ∀ d ∈ tables_1, d.before a0 Z = true) (p1 : Int32) (p2 : Int32) (h0 : Heap) (n0 : Nat)  :
    own_Met l Z (⟨"java/lang/Math", "min", "(II)I"⟩ : MethodName) jdk_29_method_69_code 2 (some .int) ({ frames := 0, cells := 0, slots := 0, locals := 0 } : Room) #[(.int p1), (.int p2)] h0 (fun v h L => v = some (.int (own_mini p1 p2)) ∧ Fr n0 L ∧ h = h0) := by
  intro ws
  refine MetFree.of_bodySF (Jvm.Free.JP.mathPlain rfl (by decide +kernel)) hisR ?_
  intro p e s m args below meth c s₁ Bd hml0 hP hK
  obtain ⟨rfl, hZ, hh⟩ := hP
  have hx := Bd.exec
  have hby := Bd.bytes
  have hml : c.maxLocals = 2 := hml0
  have hown : s.vm.findClass "java/lang/Math" = some m.cls := findClass_of_methodNamed Bd.named
  have hnm := (name_of_methodNamed Bd.named Bd.method).1
  have hlk : meth.locks = false := Bd.notSynchronized
  have X0 : Stand p l e ({ frames := 0, cells := 0, slots := 0, locals := 0 } : Room) s m #[(.int p1), (.int p2)] below meth c s₁ [] 0 0 := Stand.of_body Bd
  have e0 : s₁.heap = h0 := by rw [← hh, Bd.state]; rfl
  have N0 := Fr.nil n0
  refine own_body (Q := fun v h L => v = some (.int (own_mini p1 p2)) ∧ Fr n0 L ∧ h = h0) ?_
  generalize hΦ : own_Fin s below _ _ _ = Φ
  refine own_cast (ef_3_II m p1 p2) ?_
  show own_Run p e below Φ (s₁.setTop (mkF m 0 #[.val (.int p1), .val (.int p2)] []))
  refine own_go (fun t k => XS.iloadN X0.here hx rfl (hb hby d3_0) rfl  k) ?_
  refine own_go (fun t k => XS.iloadN X0.here hx rfl (hb hby d3_1) rfl  k) ?_
  by_cases hc2 : p2 < p1
  · refine own_go (fun t k => XS.icmpYes X0.here hx rfl (pc0 := 2) (pc' := 9) rfl (hb hby d3_2) rfl (tlt hc2).2.2.1 (by decide) (by decide) k) ?_
    refine own_go (fun t k => XS.iloadN X0.here hx rfl (hb hby d3_9) rfl  k) ?_
    subst hΦ
    exact own_retI X0 hx Bd.returns hlk (hb hby d3_10) e0 ⟨(by unfold own_mini; rw [if_pos hc2]), N0, rfl⟩ (by decide) (by decide)
  · refine own_go (fun t k => XS.icmpNo X0.here hx rfl (hb hby d3_2) rfl (flt hc2).2.2.1 k) ?_
    show own_Run p e below Φ (s₁.setTop (mkF m 5 #[.val (.int p1), .val (.int p2)] []))
    refine own_go (fun t k => XS.iloadN X0.here hx rfl (hb hby d3_5) rfl  k) ?_
    refine own_go (fun t k => XS.goto X0.here hx rfl (pc0 := 6) (pc' := 10) rfl (hb hby d3_6) (by decide) (by decide) k) ?_
    subst hΦ
    exact own_retI X0 hx Bd.returns hlk (hb hby d3_10) e0 ⟨(by unfold own_mini; rw [if_neg hc2]), N0, rfl⟩ (by decide) (by decide)
theorem d5_0 : decode jdk_29_method_65_code 0 = .ok (.iload_n 0, 1) := by decide +kernel
theorem d5_1 : decode jdk_29_method_65_code 1 = .ok (.iload_n 1, 1) := by decide +kernel
theorem d5_2 : decode jdk_29_method_65_code 2 = .ok (.if_icmp .lt 7, 3) := by decide +kernel
theorem d5_5 : decode jdk_29_method_65_code 5 = .ok (.iload_n 0, 1) := by decide +kernel
theorem d5_6 : decode jdk_29_method_65_code 6 = .ok (.goto 4, 3) := by decide +kernel
theorem d5_9 : decode jdk_29_method_65_code 9 = .ok (.iload_n 1, 1) := by decide +kernel
theorem d5_10 : decode jdk_29_method_65_code 10 = .ok (.ireturn, 1) := by decide +kernel
theorem ef_5_II (m : MethodId) (x0 : Int32) (x1 : Int32) : entryFrame m #[(.int x0), (.int x1)] 2 = mkF m 0 #[.val (.int x0), .val (.int x1)] [] := by first | (simp [entryFrame, mkF, argsToLocals, Value.category]; done) | rfl
set_option maxRecDepth 65536 in
set_option maxHeartbeats 40000000 in
theorem rm_mxi (l : Launch) (Z : State) (a0 : Array Value) (hw : ∀ d ∈ tables_1, d.before a0 Z = true) (p1 : Int32) (p2 : Int32) (h0 : Heap) (n0 : Nat)  :
    own_Met l Z (⟨"java/lang/Math", "max", "(II)I"⟩ : MethodName) jdk_29_method_65_code 2 (some .int) ({ frames := 0, cells := 0, slots := 0, locals := 0 } : Room) #[(.int p1), (.int p2)] h0 (fun v h L => v = some (.int (own_maxi p1 p2)) ∧ Fr n0 L ∧ h = h0) := by
  intro ws
  refine MetFree.of_bodySF (Jvm.Free.JP.mathPlain rfl (by decide +kernel)) hisR ?_
  intro p e s m args below meth c s₁ Bd hml0 hP hK
  obtain ⟨rfl, hZ, hh⟩ := hP
  have hx := Bd.exec
  have hby := Bd.bytes
  have hml : c.maxLocals = 2 := hml0
  have hown : s.vm.findClass "java/lang/Math" = some m.cls := findClass_of_methodNamed Bd.named
  have hnm := (name_of_methodNamed Bd.named Bd.method).1
  have hlk : meth.locks = false := Bd.notSynchronized
  have X0 : Stand p l e ({ frames := 0, cells := 0, slots := 0, locals := 0 } : Room) s m #[(.int p1), (.int p2)] below meth c s₁ [] 0 0 := Stand.of_body Bd
  have e0 : s₁.heap = h0 := by rw [← hh, Bd.state]; rfl
  have N0 := Fr.nil n0
  refine own_body (Q := fun v h L => v = some (.int (own_maxi p1 p2)) ∧ Fr n0 L ∧ h = h0) ?_
  generalize hΦ : own_Fin s below _ _ _ = Φ
  refine own_cast (ef_5_II m p1 p2) ?_
  show own_Run p e below Φ (s₁.setTop (mkF m 0 #[.val (.int p1), .val (.int p2)] []))
  refine own_go (fun t k => XS.iloadN X0.here hx rfl (hb hby d5_0) rfl  k) ?_
  refine own_go (fun t k => XS.iloadN X0.here hx rfl (hb hby d5_1) rfl  k) ?_
  by_cases hc2 : p1 < p2
  · refine own_go (fun t k => XS.icmpYes X0.here hx rfl (pc0 := 2) (pc' := 9) rfl (hb hby d5_2) rfl (tlt hc2).1 (by decide) (by decide) k) ?_
    refine own_go (fun t k => XS.iloadN X0.here hx rfl (hb hby d5_9) rfl  k) ?_
    subst hΦ
    exact own_retI X0 hx Bd.returns hlk (hb hby d5_10) e0 ⟨(by unfold own_maxi; rw [if_pos hc2]), N0, rfl⟩ (by decide) (by decide)
  · refine own_go (fun t k => XS.icmpNo X0.here hx rfl (hb hby d5_2) rfl (flt hc2).1 k) ?_
    show own_Run p e below Φ (s₁.setTop (mkF m 5 #[.val (.int p1), .val (.int p2)] []))
    refine own_go (fun t k => XS.iloadN X0.here hx rfl (hb hby d5_5) rfl  k) ?_
    refine own_go (fun t k => XS.goto X0.here hx rfl (pc0 := 6) (pc' := 10) rfl (hb hby d5_6) (by decide) (by decide) k) ?_
    subst hΦ
    exact own_retI X0 hx Bd.returns hlk (hb hby d5_10) e0 ⟨(by unfold own_maxi; rw [if_neg hc2]), N0, rfl⟩ (by decide) (by decide)
theorem d9_0 : decode jdk_29_method_70_code 0 = .ok (.lload_n 0, 1) := by decide +kernel
theorem d9_1 : decode jdk_29_method_70_code 1 = .ok (.lload_n 2, 1) := by decide +kernel
theorem d9_2 : decode jdk_29_method_70_code 2 = .ok (.lcmp, 1) := by decide +kernel
theorem d9_3 : decode jdk_29_method_70_code 3 = .ok (.ifCond .gt 7, 3) := by decide +kernel
theorem d9_6 : decode jdk_29_method_70_code 6 = .ok (.lload_n 0, 1) := by decide +kernel
theorem d9_7 : decode jdk_29_method_70_code 7 = .ok (.goto 4, 3) := by decide +kernel
theorem d9_10 : decode jdk_29_method_70_code 10 = .ok (.lload_n 2, 1) := by decide +kernel
theorem d9_11 : decode jdk_29_method_70_code 11 = .ok (.lreturn, 1) := by decide +kernel
theorem ef_9_JJ (m : MethodId) (x0 : Int64) (x1 : Int64) : entryFrame m #[(.long x0), (.long x1)] 4 = mkF m 0 #[.val (.long x0), .second, .val (.long x1), .second] [] := by first | (simp [entryFrame, mkF, argsToLocals, Value.category]; done) | rfl
set_option maxRecDepth 65536 in
set_option maxHeartbeats 40000000 in
theorem rm_mnj (l : Launch) (Z : State) (a0 : Array Value) (hw : ∀ d ∈ tables_1, d.before a0 Z = true) (q1 : Int64) (q2 : Int64) (h0 : Heap) (n0 : Nat)  :
    own_Met l Z (⟨"java/lang/Math", "min", "(JJ)J"⟩ : MethodName) jdk_29_method_70_code 4 (some .long) ({ frames := 0, cells := 0, slots := 0, locals := 0 } : Room) #[(.long q1), (.long q2)] h0 (fun v h L => v = some (.long (own_minJ q1 q2)) ∧ Fr n0 L ∧ h = h0) := by
  intro ws
  refine MetFree.of_bodySF (Jvm.Free.JP.mathPlain rfl (by decide +kernel)) hisR ?_
  intro p e s m args below meth c s₁ Bd hml0 hP hK
  obtain ⟨rfl, hZ, hh⟩ := hP
  have hx := Bd.exec
  have hby := Bd.bytes
  have hml : c.maxLocals = 4 := hml0
  have hown : s.vm.findClass "java/lang/Math" = some m.cls := findClass_of_methodNamed Bd.named
  have hnm := (name_of_methodNamed Bd.named Bd.method).1
  have hlk : meth.locks = false := Bd.notSynchronized
  have X0 : Stand p l e ({ frames := 0, cells := 0, slots := 0, locals := 0 } : Room) s m #[(.long q1), (.long q2)] below meth c s₁ [] 0 0 := Stand.of_body Bd
  have e0 : s₁.heap = h0 := by rw [← hh, Bd.state]; rfl
  have N0 := Fr.nil n0
  refine own_body (Q := fun v h L => v = some (.long (own_minJ q1 q2)) ∧ Fr n0 L ∧ h = h0) ?_
  generalize hΦ : own_Fin s below _ _ _ = Φ
  refine own_cast (ef_9_JJ m q1 q2) ?_
  show own_Run p e below Φ (s₁.setTop (mkF m 0 #[.val (.long q1), .second, .val (.long q2), .second] []))
  refine own_go (fun t k => XS.lloadN X0.here hx rfl (hb hby d9_0) rfl  k) ?_
  refine own_go (fun t k => XS.lloadN X0.here hx rfl (hb hby d9_1) rfl  k) ?_
  refine own_go (fun t k => XS.lcmp X0.here hx rfl (hb hby d9_2) rfl k) ?_
  by_cases hc3 : (0 : Int32) < (lcmpW q1 q2)
  · refine own_go (fun t k => XS.ifYes X0.here hx rfl (pc0 := 3) (pc' := 10) rfl (hb hby d9_3) rfl ((if0 _ _).trans (tlt hc3).2.2.1) (by decide) (by decide) k) ?_
    refine own_go (fun t k => XS.lloadN X0.here hx rfl (hb hby d9_10) rfl  k) ?_
    show own_Run p e below Φ (s₁.setTop (mkF m 11 #[.val (.long q1), .second, .val (.long q2), .second] [(.long q2)]))
    subst hΦ
    exact own_retO X0 hx (t := .long) Bd.returns rfl (Or.inr (Or.inl ⟨rfl, rfl, _, rfl⟩)) hlk (hb hby d9_11) e0 ⟨(by unfold own_minJ; rw [if_pos ((lw_gt _ _).mp hc3)]), N0, rfl⟩ (by decide) (by decide)
  · refine own_go (fun t k => XS.ifNo X0.here hx rfl (hb hby d9_3) rfl ((if0 _ _).trans (flt hc3).2.2.1) k) ?_
    refine own_go (fun t k => XS.lloadN X0.here hx rfl (hb hby d9_6) rfl  k) ?_
    refine own_go (fun t k => XS.goto X0.here hx rfl (pc0 := 7) (pc' := 11) rfl (hb hby d9_7) (by decide) (by decide) k) ?_
    subst hΦ
    exact own_retO X0 hx (t := .long) Bd.returns rfl (Or.inr (Or.inl ⟨rfl, rfl, _, rfl⟩)) hlk (hb hby d9_11) e0 ⟨(by unfold own_minJ; rw [if_neg (mt (lw_gt _ _).mpr hc3)]), N0, rfl⟩ (by decide) (by decide)
theorem d8_0 : decode jdk_29_method_66_code 0 = .ok (.lload_n 0, 1) := by decide +kernel
theorem d8_1 : decode jdk_29_method_66_code 1 = .ok (.lload_n 2, 1) := by decide +kernel
theorem d8_2 : decode jdk_29_method_66_code 2 = .ok (.lcmp, 1) := by decide +kernel
theorem d8_3 : decode jdk_29_method_66_code 3 = .ok (.ifCond .lt 7, 3) := by decide +kernel
theorem d8_6 : decode jdk_29_method_66_code 6 = .ok (.lload_n 0, 1) := by decide +kernel
theorem d8_7 : decode jdk_29_method_66_code 7 = .ok (.goto 4, 3) := by decide +kernel
theorem d8_10 : decode jdk_29_method_66_code 10 = .ok (.lload_n 2, 1) := by decide +kernel
theorem d8_11 : decode jdk_29_method_66_code 11 = .ok (.lreturn, 1) := by decide +kernel
theorem ef_8_JJ (m : MethodId) (x0 : Int64) (x1 : Int64) : entryFrame m #[(.long x0), (.long x1)] 4 = mkF m 0 #[.val (.long x0), .second, .val (.long x1), .second] [] := by first | (simp [entryFrame, mkF, argsToLocals, Value.category]; done) | rfl
set_option maxRecDepth 65536 in
set_option maxHeartbeats 40000000 in
theorem rm_mxj (l : Launch) (Z : State) (a0 : Array Value) (hw : ∀ d ∈ tables_1, d.before a0 Z = true) (q1 : Int64) (q2 : Int64) (h0 : Heap) (n0 : Nat)  :
    own_Met l Z (⟨"java/lang/Math", "max", "(JJ)J"⟩ : MethodName) jdk_29_method_66_code 4 (some .long) ({ frames := 0, cells := 0, slots := 0, locals := 0 } : Room) #[(.long q1), (.long q2)] h0 (fun v h L => v = some (.long (own_maxJ q1 q2)) ∧ Fr n0 L ∧ h = h0) := by
  intro ws
  refine MetFree.of_bodySF (Jvm.Free.JP.mathPlain rfl (by decide +kernel)) hisR ?_
  intro p e s m args below meth c s₁ Bd hml0 hP hK
  obtain ⟨rfl, hZ, hh⟩ := hP
  have hx := Bd.exec
  have hby := Bd.bytes
  have hml : c.maxLocals = 4 := hml0
  have hown : s.vm.findClass "java/lang/Math" = some m.cls := findClass_of_methodNamed Bd.named
  have hnm := (name_of_methodNamed Bd.named Bd.method).1
  have hlk : meth.locks = false := Bd.notSynchronized
  have X0 : Stand p l e ({ frames := 0, cells := 0, slots := 0, locals := 0 } : Room) s m #[(.long q1), (.long q2)] below meth c s₁ [] 0 0 := Stand.of_body Bd
  have e0 : s₁.heap = h0 := by rw [← hh, Bd.state]; rfl
  have N0 := Fr.nil n0
  refine own_body (Q := fun v h L => v = some (.long (own_maxJ q1 q2)) ∧ Fr n0 L ∧ h = h0) ?_
  generalize hΦ : own_Fin s below _ _ _ = Φ
  refine own_cast (ef_8_JJ m q1 q2) ?_
  show own_Run p e below Φ (s₁.setTop (mkF m 0 #[.val (.long q1), .second, .val (.long q2), .second] []))
  refine own_go (fun t k => XS.lloadN X0.here hx rfl (hb hby d8_0) rfl  k) ?_
  refine own_go (fun t k => XS.lloadN X0.here hx rfl (hb hby d8_1) rfl  k) ?_
  refine own_go (fun t k => XS.lcmp X0.here hx rfl (hb hby d8_2) rfl k) ?_
  by_cases hc3 : (lcmpW q1 q2) < (0 : Int32)
  · refine own_go (fun t k => XS.ifYes X0.here hx rfl (pc0 := 3) (pc' := 10) rfl (hb hby d8_3) rfl ((if0 _ _).trans (tlt hc3).1) (by decide) (by decide) k) ?_
    refine own_go (fun t k => XS.lloadN X0.here hx rfl (hb hby d8_10) rfl  k) ?_
    show own_Run p e below Φ (s₁.setTop (mkF m 11 #[.val (.long q1), .second, .val (.long q2), .second] [(.long q2)]))
    subst hΦ
    exact own_retO X0 hx (t := .long) Bd.returns rfl (Or.inr (Or.inl ⟨rfl, rfl, _, rfl⟩)) hlk (hb hby d8_11) e0 ⟨(by unfold own_maxJ; rw [if_pos ((lw_lt _ _).mp hc3)]), N0, rfl⟩ (by decide) (by decide)
  · refine own_go (fun t k => XS.ifNo X0.here hx rfl (hb hby d8_3) rfl ((if0 _ _).trans (flt hc3).1) k) ?_
    refine own_go (fun t k => XS.lloadN X0.here hx rfl (hb hby d8_6) rfl  k) ?_
    refine own_go (fun t k => XS.goto X0.here hx rfl (pc0 := 7) (pc' := 11) rfl (hb hby d8_7) (by decide) (by decide) k) ?_
    subst hΦ
    exact own_retO X0 hx (t := .long) Bd.returns rfl (Or.inr (Or.inl ⟨rfl, rfl, _, rfl⟩)) hlk (hb hby d8_11) e0 ⟨(by unfold own_maxJ; rw [if_neg (mt (lw_lt _ _).mpr hc3)]), N0, rfl⟩ (by decide) (by decide)
theorem d7_0 : decode prog_33_method_2_code 0 = .ok (.lload_n 1, 1) := by decide +kernel
theorem d7_1 : decode prog_33_method_2_code 1 = .ok (.ldc2_w 11, 3) := by decide +kernel
theorem d7_4 : decode prog_33_method_2_code 4 = .ok (.lcmp, 1) := by decide +kernel
theorem d7_5 : decode prog_33_method_2_code 5 = .ok (.ifCond .lt 17, 3) := by decide +kernel
theorem d7_22 : decode prog_33_method_2_code 22 = .ok (.ldc2_w 11, 3) := by decide +kernel
theorem d7_25 : decode prog_33_method_2_code 25 = .ok (.lload_n 1, 1) := by decide +kernel
theorem d7_26 : decode prog_33_method_2_code 26 = .ok (.lconst 1, 1) := by decide +kernel
theorem d7_27 : decode prog_33_method_2_code 27 = .ok (.ladd, 1) := by decide +kernel
theorem d7_28 : decode prog_33_method_2_code 28 = .ok (.ldc2_w 22, 3) := by decide +kernel
theorem d7_31 : decode prog_33_method_2_code 31 = .ok (.iload_n 0, 1) := by decide +kernel
theorem d7_32 : decode prog_33_method_2_code 32 = .ok (.i2l, 1) := by decide +kernel
theorem d7_33 : decode prog_33_method_2_code 33 = .ok (.lmul, 1) := by decide +kernel
theorem d7_34 : decode prog_33_method_2_code 34 = .ok (.invokestatic 24, 3) := by decide +kernel
theorem d7_37 : decode prog_33_method_2_code 37 = .ok (.invokestatic 30, 3) := by decide +kernel
theorem d7_40 : decode prog_33_method_2_code 40 = .ok (.l2i, 1) := by decide +kernel
theorem d7_41 : decode prog_33_method_2_code 41 = .ok (.ireturn, 1) := by decide +kernel
theorem pn_c4 : plainName "com/example/hueline/hueline/model/BigArrays" = true := by first | (simp [plainName, overriddenIn]; done) | decide +kernel
theorem pd_4 : parseMethodDescriptor "(JJ)J" = some ⟨[.long, .long], some .long⟩ := by decide +kernel
theorem ef_7_IJ (m : MethodId) (x0 : Int32) (x1 : Int64) : entryFrame m #[(.int x0), (.long x1)] 3 = mkF m 0 #[.val (.int x0), .val (.long x1), .second] [] := by first | (simp [entryFrame, mkF, argsToLocals, Value.category]; done) | rfl
set_option maxRecDepth 65536 in
set_option maxHeartbeats 40000000 in
theorem rm_gl (l : Launch) (Z : State) (a0 : Array Value) (hw : ∀ d ∈ tables_1, d.before a0 Z = true) (p1 : Int32) (q2 : Int64) (h0 : Heap) (n0 : Nat) (hq : q2.toInt < 2147483639) :
    own_Met l Z (⟨"com/example/hueline/hueline/model/BigArrays", "grownLength", "(IJ)I"⟩ : MethodName) prog_33_method_2_code 3 (some .int) ({ frames := 1, cells := 0, slots := 0, locals := 17 } : Room) #[(.int p1), (.long q2)] h0 (fun v h L => v = some (.int (own_gl p1 q2)) ∧ Fr n0 L ∧ h = h0) := by
  intro ws
  refine MetFree.of_bodySF (plainFor_of_name pn_c4) hisR ?_
  intro p e s m args below meth c s₁ Bd hml0 hP hK
  obtain ⟨rfl, hZ, hh⟩ := hP
  have hx := Bd.exec
  have hby := Bd.bytes
  have hml : c.maxLocals = 3 := hml0
  have hown : s.vm.findClass "com/example/hueline/hueline/model/BigArrays" = some m.cls := findClass_of_methodNamed Bd.named
  have hnm := (name_of_methodNamed Bd.named Bd.method).1
  have hlk : meth.locks = false := Bd.notSynchronized
  have X0 : Stand p l e ({ frames := 1, cells := 0, slots := 0, locals := 17 } : Room) s m #[(.int p1), (.long q2)] below meth c s₁ [] 0 0 := Stand.of_body Bd
  have e0 : s₁.heap = h0 := by rw [← hh, Bd.state]; rfl
  have N0 := Fr.nil n0
  refine own_body (Q := fun v h L => v = some (.int (own_gl p1 q2)) ∧ Fr n0 L ∧ h = h0) ?_
  generalize hΦ : own_Fin s below _ _ _ = Φ
  refine own_cast (ef_7_IJ m p1 q2) ?_
  show own_Run p e below Φ (s₁.setTop (mkF m 0 #[.val (.int p1), .val (.long q2), .second] []))
  refine own_go (fun t k => XS.lloadN X0.here hx rfl (hb hby d7_0) rfl  k) ?_
  refine own_go (X0.ldc2Long hx hown (mvT hZ (hw _ (List.mem_of_getElem? (i := 37) rfl))) (g := (mkF m 1 #[.val (.int p1), .val (.long q2), .second] [(.long q2)])) rfl (hb hby d7_1)) ?_
  refine own_go (fun t k => XS.lcmp X0.here hx rfl (hb hby d7_4) rfl k) ?_
  have hc5 : (lcmpW q2 (2147483639 : Int64)) < (0 : Int32) := ((lw_lt _ _).mpr (by rw [Int64.lt_iff_toInt_lt]; simp only [Int64.reduceToInt]; omega))
  refine own_go (fun t k => XS.ifYes X0.here hx rfl (pc0 := 5) (pc' := 22) rfl (hb hby d7_5) rfl ((if0 _ _).trans (tlt hc5).1) (by decide) (by decide) k) ?_
  refine own_go (X0.ldc2Long hx hown (mvT hZ (hw _ (List.mem_of_getElem? (i := 37) rfl))) (g := (mkF m 22 #[.val (.int p1), .val (.long q2), .second] [])) rfl (hb hby d7_22)) ?_
  show own_Run p e below Φ (s₁.setTop (mkF m 25 #[.val (.int p1), .val (.long q2), .second] [(.long (2147483639 : Int64))]))
  refine own_go (fun t k => XS.lloadN X0.here hx rfl (hb hby d7_25) rfl  k) ?_
  refine own_go (fun t k => XS.lconst X0.here hx rfl (hb hby d7_26) k) ?_
  refine own_go (fun t k => XS.ladd X0.here hx rfl (hb hby d7_27) rfl k) ?_
  refine own_go (X0.ldc2Long hx hown (mvT hZ (hw _ (List.mem_of_getElem? (i := 38) rfl))) (g := (mkF m 28 #[.val (.int p1), .val (.long q2), .second] [(.long (q2 + (1 : Int64))), (.long (2147483639 : Int64))])) rfl (hb hby d7_28)) ?_
  refine own_go (fun t k => XS.iloadN X0.here hx rfl (hb hby d7_31) rfl  k) ?_
  show own_Run p e below Φ (s₁.setTop (mkF m 32 #[.val (.int p1), .val (.long q2), .second] [(.int p1), (.long (2 : Int64)), (.long (q2 + (1 : Int64))), (.long (2147483639 : Int64))]))
  refine own_go (fun t k => XS.i2l X0.here hx rfl (hb hby d7_32) rfl k) ?_
  refine own_go (fun t k => XS.lmul X0.here hx rfl (hb hby d7_33) rfl k) ?_
  refine own_callS X0 hx hZ (y := (⟨"java/lang/Math", "max", "(JJ)J"⟩ : MethodName)) (W := 2) (argsL := [(.long (q2 + (1 : Int64))), (.long ((2 : Int64) * (p1.toInt64)))]) (rest := [(.long (2147483639 : Int64))]) hown (hw _ (List.mem_of_getElem? (i := 39) rfl)) (hw _ (List.mem_of_getElem? (i := 40) rfl)) (hw _ (List.mem_of_getElem? (i := 16) rfl)) (hw _ (List.mem_of_getElem? (i := 41) rfl)) (by decide) (own_bk (rm_mxj l Z a0 hw (q2 + (1 : Int64)) ((2 : Int64) * (p1.toInt64)) h0 n0 ) hZ (hw _ (List.mem_of_getElem? (i := 41) rfl)) (hw _ (List.mem_of_getElem? (i := 16) rfl)) (by decide) (by decide)) e0 (g := (mkF m 34 #[.val (.int p1), .val (.long q2), .second] [(.long ((2 : Int64) * (p1.toInt64))), (.long (q2 + (1 : Int64))), (.long (2147483639 : Int64))])) rfl (by rw [hml]; rfl) (lenOf pd_4 rfl) rfl (by show 2 * 0 + _ ≤ _; exact Nat.le_of_eq rfl) (hb hby d7_34) (by decide) (by decide) (fun v1 T1 h1 L1 X1 e1 q1 => ?_)
  obtain ⟨rfl, M1, s1⟩ := q1
  replace e1 : T1.heap = h0 := e1.trans s1
  have N1 := Fr.app N0 M1
  refine own_callS X1 hx hZ (y := (⟨"java/lang/Math", "min", "(JJ)J"⟩ : MethodName)) (W := 0) (argsL := [(.long (2147483639 : Int64)), (.long (own_maxJ (q2 + (1 : Int64)) ((2 : Int64) * (p1.toInt64))))]) (rest := []) hown (hw _ (List.mem_of_getElem? (i := 42) rfl)) (hw _ (List.mem_of_getElem? (i := 43) rfl)) (hw _ (List.mem_of_getElem? (i := 16) rfl)) (hw _ (List.mem_of_getElem? (i := 44) rfl)) (by decide) (own_bk (rm_mnj l Z a0 hw (2147483639 : Int64) (own_maxJ (q2 + (1 : Int64)) ((2 : Int64) * (p1.toInt64))) h0 n0 ) hZ (hw _ (List.mem_of_getElem? (i := 44) rfl)) (hw _ (List.mem_of_getElem? (i := 16) rfl)) (by decide) (by decide)) e1 (g := (mkF m 37 #[.val (.int p1), .val (.long q2), .second] [(.long (own_maxJ (q2 + (1 : Int64)) ((2 : Int64) * (p1.toInt64)))), (.long (2147483639 : Int64))])) rfl (by rw [hml]; rfl) (lenOf pd_4 rfl) rfl (by show 2 * 0 + _ ≤ _; exact Nat.le_of_eq rfl) (hb hby d7_37) (by decide) (by decide) (fun v2 T2 h2 L2 X2 e2 q2 => ?_)
  obtain ⟨rfl, M2, s2⟩ := q2
  replace e2 : T2.heap = h0 := e2.trans s2
  have N2 := Fr.app N1 M2
  refine own_go (fun t k => XS.l2i X2.here hx rfl (hb hby d7_40) rfl k) ?_
  show own_Run p e below Φ (T2.setTop (mkF m 41 #[.val (.int p1), .val (.long q2), .second] [(.int ((own_minJ (2147483639 : Int64) (own_maxJ (q2 + (1 : Int64)) ((2 : Int64) * (p1.toInt64)))).toInt32))]))
  subst hΦ
  exact own_retI X2 hx Bd.returns hlk (hb hby d7_41) e2 ⟨rfl, N2, rfl⟩ (by decide) (by decide)
theorem d10_0 : decode jdk_65_method_123_code 0 = .ok (.iload_n 1, 1) := by decide +kernel
theorem d10_1 : decode jdk_65_method_123_code 1 = .ok (.aload_n 0, 1) := by decide +kernel
theorem d10_2 : decode jdk_65_method_123_code 2 = .ok (.arraylength, 1) := by decide +kernel
theorem d10_3 : decode jdk_65_method_123_code 3 = .ok (.if_icmp .ne 11, 3) := by decide +kernel
theorem d10_14 : decode jdk_65_method_123_code 14 = .ok (.iload_n 1, 1) := by decide +kernel
theorem d10_15 : decode jdk_65_method_123_code 15 = .ok (.newarray .int, 2) := by decide +kernel
theorem d10_17 : decode jdk_65_method_123_code 17 = .ok (.astore_n 2, 1) := by decide +kernel
theorem d10_18 : decode jdk_65_method_123_code 18 = .ok (.aload_n 0, 1) := by decide +kernel
theorem d10_19 : decode jdk_65_method_123_code 19 = .ok (.iconst 0, 1) := by decide +kernel
theorem d10_20 : decode jdk_65_method_123_code 20 = .ok (.aload_n 2, 1) := by decide +kernel
theorem d10_21 : decode jdk_65_method_123_code 21 = .ok (.iconst 0, 1) := by decide +kernel
theorem d10_22 : decode jdk_65_method_123_code 22 = .ok (.aload_n 0, 1) := by decide +kernel
theorem d10_23 : decode jdk_65_method_123_code 23 = .ok (.arraylength, 1) := by decide +kernel
theorem d10_24 : decode jdk_65_method_123_code 24 = .ok (.iload_n 1, 1) := by decide +kernel
theorem d10_25 : decode jdk_65_method_123_code 25 = .ok (.invokestatic 304, 3) := by decide +kernel
theorem d10_28 : decode jdk_65_method_123_code 28 = .ok (.invokestatic 150, 3) := by decide +kernel
theorem d10_31 : decode jdk_65_method_123_code 31 = .ok (.aload_n 2, 1) := by decide +kernel
theorem d10_32 : decode jdk_65_method_123_code 32 = .ok (.areturn, 1) := by decide +kernel
theorem pn_c5 : plainName "java/util/Arrays" = true := by first | (simp [plainName, overriddenIn]; done) | decide +kernel
theorem pd_1 : parseMethodDescriptor "(II)I" = some ⟨[.int, .int], some .int⟩ := by decide +kernel
theorem ef_10_RI (m : MethodId) (x0 : Addr) (x1 : Int32) : entryFrame m #[(.ref x0), (.int x1)] 3 = mkF m 0 #[.val (.ref x0), .val (.int x1), .unset] [] := by first | (simp [entryFrame, mkF, argsToLocals, Value.category]; done) | rfl
set_option maxRecDepth 65536 in
set_option maxHeartbeats 40000000 in
theorem rm_cp126 (l : Launch) (Z : State) (a0 : Array Value) (hw : ∀ d ∈ tables_1, d.before a0 Z = true) (a1 : Addr) (p2 : Int32) (ka : ClassId) (n1 : Int32) (fc : Int32 → Int32) (h0 : Heap) (n0 : Nat) (H1 : Arv Z h0 a1 ka .int n1 (own_cl fc) (.int (0 : Int32))) (H2 : n0 ≤ h0.size) (hlt : 0 ≤ n1.toInt ∧ n1.toInt < p2.toInt ∧ p2.toInt ≤ 126) :
    own_Met l Z (⟨"java/util/Arrays", "copyOf", "([II)[I"⟩ : MethodName) jdk_65_method_123_code 3 (some (.array .int)) ({ frames := 1, cells := 1, slots := 126, locals := 18 } : Room) #[(.ref a1), (.int p2)] h0 (fun v h L => v = some (.ref h0.size) ∧ Fr n0 L ∧ Keep h0 h [] ∧ ∃ k0 : ClassId, Arv Z h h0.size k0 .int p2 (own_cl (own_tr fc n1)) (.int (0 : Int32))) := by
  intro ws
  refine MetFree.of_bodySF (plainFor_of_name pn_c5) hisR ?_
  intro p e s m args below meth c s₁ Bd hml0 hP hK
  obtain ⟨rfl, hZ, hh⟩ := hP
  have hx := Bd.exec
  have hby := Bd.bytes
  have hml : c.maxLocals = 3 := hml0
  have hown : s.vm.findClass "java/util/Arrays" = some m.cls := findClass_of_methodNamed Bd.named
  have hnm := (name_of_methodNamed Bd.named Bd.method).1
  have hlk : meth.locks = false := Bd.notSynchronized
  have X0 : Stand p l e ({ frames := 1, cells := 1, slots := 126, locals := 18 } : Room) s m #[(.ref a1), (.int p2)] below meth c s₁ [] 0 0 := Stand.of_body Bd
  have e0 : s₁.heap = h0 := by rw [← hh, Bd.state]; rfl
  have N0 := Fr.nil n0
  refine own_body (Q := fun v h L => v = some (.ref h0.size) ∧ Fr n0 L ∧ Keep h0 h [] ∧ ∃ k0 : ClassId, Arv Z h h0.size k0 .int p2 (own_cl (own_tr fc n1)) (.int (0 : Int32))) ?_
  generalize hΦ : own_Fin s below _ _ _ = Φ
  refine own_cast (ef_10_RI m a1 p2) ?_
  have K0 := Keep.refl h0 []
  show own_Run p e below Φ (s₁.setTop (mkF m 0 #[.val (.ref a1), .val (.int p2), .unset] []))
  refine own_go (fun t k => XS.iloadN X0.here hx rfl (hb hby d10_0) rfl  k) ?_
  refine own_go (fun t k => XS.aloadN X0.here hx rfl (hb hby d10_1) rfl rfl  k) ?_
  refine own_arrlen X0 hx hZ e0 H1 (g := (mkF m 2 #[.val (.ref a1), .val (.int p2), .unset] [(.ref a1), (.int p2)])) rfl rfl (hb hby d10_2) ?_
  have hc3 : ¬ (p2 = n1) := (fun q => by rw [q] at hlt; omega)
  refine own_go (fun t k => XS.icmpYes X0.here hx rfl (pc0 := 3) (pc' := 14) rfl (hb hby d10_3) rfl (feq hc3).2 (by decide) (by decide) k) ?_
  refine own_go (fun t k => XS.iloadN X0.here hx rfl (hb hby d10_14) rfl  k) ?_
  show own_Run p e below Φ (s₁.setTop (mkF m 15 #[.val (.ref a1), .val (.int p2), .unset] [(.int p2)]))
  refine own_newP X0 hx hZ (hw _ (List.mem_of_getElem? (i := 9) rfl)) e0 (g := (mkF m 15 #[.val (.ref a1), .val (.int p2), .unset] [(.int p2)])) rfl (hb hby d10_15) rfl (own_inb (n := (1000 : Int32)) ⟨by omega, by simp only [Int32.reduceToInt]; omega⟩).1 126 (by have := own_nat (p := p2) (by omega); omega) (by decide) (by decide) (by decide) 128 (fun T1 h1 k1 b1 X1 e1 E1 g1 V1 => ?_)
  have ne_a1_b1 : a1 ≠ b1 := Nat.ne_of_lt (Nat.lt_of_lt_of_le H1.lt (Nat.le_of_eq g1.symm))
  replace V1 : Arv Z h1 b1 k1 .int p2 (List.replicate 128 (Value.int (0 : Int32))) (.int (0 : Int32)) := V1
  refine own_go (fun t k => XS.astoreN X1.here hx rfl (hb hby d10_17) rfl rfl (l' := #[.val (.ref a1), .val (.int p2), .val (.ref b1)]) rfl k) ?_
  refine own_go (fun t k => XS.aloadN X1.here hx rfl (hb hby d10_18) rfl rfl  k) ?_
  refine own_go (fun t k => XS.iconst X1.here hx rfl (hb hby d10_19) k) ?_
  refine own_go (fun t k => XS.aloadN X1.here hx rfl (hb hby d10_20) rfl rfl  k) ?_
  show own_Run p e below Φ (T1.setTop (mkF m 21 #[.val (.ref a1), .val (.int p2), .val (.ref b1)] [(.ref b1), (.int (0 : Int32)), (.ref a1)]))
  refine own_go (fun t k => XS.iconst X1.here hx rfl (hb hby d10_21) k) ?_
  refine own_go (fun t k => XS.aloadN X1.here hx rfl (hb hby d10_22) rfl rfl  k) ?_
  have F3 : Arv Z h1 a1 ka .int n1 (own_cl fc) (.int (0 : Int32)) := (H1.ext E1)
  refine own_arrlen X1 hx hZ e1 F3 (g := (mkF m 23 #[.val (.ref a1), .val (.int p2), .val (.ref b1)] [(.ref a1), (.int (0 : Int32)), (.ref b1), (.int (0 : Int32)), (.ref a1)])) rfl rfl (hb hby d10_23) ?_
  refine own_go (fun t k => XS.iloadN X1.here hx rfl (hb hby d10_24) rfl  k) ?_
  refine own_callS X1 hx hZ (y := (⟨"java/lang/Math", "min", "(II)I"⟩ : MethodName)) (W := 4) (argsL := [(.int n1), (.int p2)]) (rest := [(.int (0 : Int32)), (.ref b1), (.int (0 : Int32)), (.ref a1)]) hown (hw _ (List.mem_of_getElem? (i := 49) rfl)) (hw _ (List.mem_of_getElem? (i := 15) rfl)) (hw _ (List.mem_of_getElem? (i := 16) rfl)) (hw _ (List.mem_of_getElem? (i := 17) rfl)) (by decide) (own_bk (rm_mni l Z a0 hw n1 p2 h1 n0 ) hZ (hw _ (List.mem_of_getElem? (i := 17) rfl)) (hw _ (List.mem_of_getElem? (i := 16) rfl)) (by decide) (by decide)) e1 (g := (mkF m 25 #[.val (.ref a1), .val (.int p2), .val (.ref b1)] [(.int p2), (.int n1), (.int (0 : Int32)), (.ref b1), (.int (0 : Int32)), (.ref a1)])) rfl (by rw [hml]; rfl) (lenOf pd_1 rfl) rfl (by show 2 * 0 + _ ≤ _; exact Nat.le_of_eq rfl) (hb hby d10_25) (by decide) (by decide) (fun v4 T4 h4 L4 X4 e4 q4 => ?_)
  obtain ⟨rfl, M4, s4⟩ := q4
  replace e4 : T4.heap = h1 := e4.trans s4
  have N4 := Fr.app N0 M4
  show own_Run p e below Φ (T4.setTop (mkF m 28 #[.val (.ref a1), .val (.int p2), .val (.ref b1)] [(.int (own_mini n1 p2)), (.int (0 : Int32)), (.ref b1), (.int (0 : Int32)), (.ref a1)]))
  rw [show (own_mini n1 p2) = n1 from (own_me (by omega))]
  show own_Run p e below Φ (T4.setTop (mkF m 28 #[.val (.ref a1), .val (.int p2), .val (.ref b1)] [(.int n1), (.int (0 : Int32)), (.ref b1), (.int (0 : Int32)), (.ref a1)]))
  have q1 := own_nat (p := n1) (by omega)
  have q2 := own_nat (p := p2) (by omega)
  have q0 : (0 : Int32).toNatClampNeg = 0 := by decide
  obtain ⟨T5, h5, L5, X5, e5, N5, K5, V5, st5⟩ := cpA X4 hx hZ hown (hw _ (List.mem_of_getElem? (i := 50) rfl)) (hw _ (List.mem_of_getElem? (i := 53) rfl)) (hw _ (List.mem_of_getElem? (i := 51) rfl)) (hw _ (List.mem_of_getElem? (i := 52) rfl)) e4 F3 V1 (Or.inl ⟨rfl, rfl⟩) (by decide) (by decide) (own_inb (n := p2) ⟨by omega, by omega⟩).1 (by rw [q0]; omega) (by rw [q0]; omega) rfl (by rw [q0, List.length_replicate]; omega) N4 (Nat.le_trans H2 (Nat.le_of_eq g1.symm)) (g := (mkF m 28 #[.val (.ref a1), .val (.int p2), .val (.ref b1)] [(.int n1), (.int (0 : Int32)), (.ref b1), (.int (0 : Int32)), (.ref a1)])) rfl (by rw [hml]; rfl) rfl (hb hby d10_28) (by decide) (W := 0) (by show 2 * 0 + _ ≤ _; exact Nat.le_of_eq rfl) (by decide)
  refine own_go st5 ?_
  replace V5 : Arv Z h5 b1 k1 .int p2 (own_cl (own_tr fc n1)) (.int (0 : Int32)) := V5.pad (own_cp ⟨by omega, by omega⟩)
  refine own_go (fun t k => XS.aloadN X5.here hx rfl (hb hby d10_31) rfl rfl  k) ?_
  have F6 : Keep h0 h5 [] := ((K0.ext E1).trans K5 (allS (P := fun x => x ∈ [] ∨ h0.size ≤ x) (Or.inr (Nat.le_trans K0.1 (Nat.le_of_eq g1.symm))) all0))
  subst hΦ
  exact own_retO X5 hx (t := (.array .int)) Bd.returns rfl (Or.inr (Or.inr (Or.inr (Or.inr ⟨rfl, rfl, rfl⟩)))) hlk (hb hby d10_32) e5 ⟨(by rw [g1]), N5, F6, ⟨_, by rw [← g1]; exact V5⟩⟩ (by decide) (by decide)
set_option maxRecDepth 65536 in
set_option maxHeartbeats 40000000 in
theorem rm_cp32 (l : Launch) (Z : State) (a0 : Array Value) (hw : ∀ d ∈ tables_1, d.before a0 Z = true) (a1 : Addr) (p2 : Int32) (ka : ClassId) (n1 : Int32) (fc : Int32 → Int32) (h0 : Heap) (n0 : Nat) (H1 : Arv Z h0 a1 ka .int n1 (own_cl fc) (.int (0 : Int32))) (H2 : n0 ≤ h0.size) (hlt : 0 ≤ n1.toInt ∧ n1.toInt < p2.toInt ∧ p2.toInt ≤ 32) :
    own_Met l Z (⟨"java/util/Arrays", "copyOf", "([II)[I"⟩ : MethodName) jdk_65_method_123_code 3 (some (.array .int)) ({ frames := 1, cells := 1, slots := 32, locals := 18 } : Room) #[(.ref a1), (.int p2)] h0 (fun v h L => v = some (.ref h0.size) ∧ Fr n0 L ∧ Keep h0 h [] ∧ ∃ k0 : ClassId, Arv Z h h0.size k0 .int p2 (own_cl (own_tr fc n1)) (.int (0 : Int32))) := by
  intro ws
  refine MetFree.of_bodySF (plainFor_of_name pn_c5) hisR ?_
  intro p e s m args below meth c s₁ Bd hml0 hP hK
  obtain ⟨rfl, hZ, hh⟩ := hP
  have hx := Bd.exec
  have hby := Bd.bytes
  have hml : c.maxLocals = 3 := hml0
  have hown : s.vm.findClass "java/util/Arrays" = some m.cls := findClass_of_methodNamed Bd.named
  have hnm := (name_of_methodNamed Bd.named Bd.method).1
  have hlk : meth.locks = false := Bd.notSynchronized
  have X0 : Stand p l e ({ frames := 1, cells := 1, slots := 32, locals := 18 } : Room) s m #[(.ref a1), (.int p2)] below meth c s₁ [] 0 0 := Stand.of_body Bd
  have e0 : s₁.heap = h0 := by rw [← hh, Bd.state]; rfl
  have N0 := Fr.nil n0
  refine own_body (Q := fun v h L => v = some (.ref h0.size) ∧ Fr n0 L ∧ Keep h0 h [] ∧ ∃ k0 : ClassId, Arv Z h h0.size k0 .int p2 (own_cl (own_tr fc n1)) (.int (0 : Int32))) ?_
  generalize hΦ : own_Fin s below _ _ _ = Φ
  refine own_cast (ef_10_RI m a1 p2) ?_
  have K0 := Keep.refl h0 []
  show own_Run p e below Φ (s₁.setTop (mkF m 0 #[.val (.ref a1), .val (.int p2), .unset] []))
  refine own_go (fun t k => XS.iloadN X0.here hx rfl (hb hby d10_0) rfl  k) ?_
  refine own_go (fun t k => XS.aloadN X0.here hx rfl (hb hby d10_1) rfl rfl  k) ?_
  refine own_arrlen X0 hx hZ e0 H1 (g := (mkF m 2 #[.val (.ref a1), .val (.int p2), .unset] [(.ref a1), (.int p2)])) rfl rfl (hb hby d10_2) ?_
  have hc3 : ¬ (p2 = n1) := (fun q => by rw [q] at hlt; omega)
  refine own_go (fun t k => XS.icmpYes X0.here hx rfl (pc0 := 3) (pc' := 14) rfl (hb hby d10_3) rfl (feq hc3).2 (by decide) (by decide) k) ?_
  refine own_go (fun t k => XS.iloadN X0.here hx rfl (hb hby d10_14) rfl  k) ?_
  show own_Run p e below Φ (s₁.setTop (mkF m 15 #[.val (.ref a1), .val (.int p2), .unset] [(.int p2)]))
  refine own_newP X0 hx hZ (hw _ (List.mem_of_getElem? (i := 9) rfl)) e0 (g := (mkF m 15 #[.val (.ref a1), .val (.int p2), .unset] [(.int p2)])) rfl (hb hby d10_15) rfl (own_inb (n := (1000 : Int32)) ⟨by omega, by simp only [Int32.reduceToInt]; omega⟩).1 32 (by have := own_nat (p := p2) (by omega); omega) (by decide) (by decide) (by decide) 128 (fun T1 h1 k1 b1 X1 e1 E1 g1 V1 => ?_)
  have ne_a1_b1 : a1 ≠ b1 := Nat.ne_of_lt (Nat.lt_of_lt_of_le H1.lt (Nat.le_of_eq g1.symm))
  replace V1 : Arv Z h1 b1 k1 .int p2 (List.replicate 128 (Value.int (0 : Int32))) (.int (0 : Int32)) := V1
  refine own_go (fun t k => XS.astoreN X1.here hx rfl (hb hby d10_17) rfl rfl (l' := #[.val (.ref a1), .val (.int p2), .val (.ref b1)]) rfl k) ?_
  refine own_go (fun t k => XS.aloadN X1.here hx rfl (hb hby d10_18) rfl rfl  k) ?_
  refine own_go (fun t k => XS.iconst X1.here hx rfl (hb hby d10_19) k) ?_
  refine own_go (fun t k => XS.aloadN X1.here hx rfl (hb hby d10_20) rfl rfl  k) ?_
  show own_Run p e below Φ (T1.setTop (mkF m 21 #[.val (.ref a1), .val (.int p2), .val (.ref b1)] [(.ref b1), (.int (0 : Int32)), (.ref a1)]))
  refine own_go (fun t k => XS.iconst X1.here hx rfl (hb hby d10_21) k) ?_
  refine own_go (fun t k => XS.aloadN X1.here hx rfl (hb hby d10_22) rfl rfl  k) ?_
  have F3 : Arv Z h1 a1 ka .int n1 (own_cl fc) (.int (0 : Int32)) := (H1.ext E1)
  refine own_arrlen X1 hx hZ e1 F3 (g := (mkF m 23 #[.val (.ref a1), .val (.int p2), .val (.ref b1)] [(.ref a1), (.int (0 : Int32)), (.ref b1), (.int (0 : Int32)), (.ref a1)])) rfl rfl (hb hby d10_23) ?_
  refine own_go (fun t k => XS.iloadN X1.here hx rfl (hb hby d10_24) rfl  k) ?_
  refine own_callS X1 hx hZ (y := (⟨"java/lang/Math", "min", "(II)I"⟩ : MethodName)) (W := 4) (argsL := [(.int n1), (.int p2)]) (rest := [(.int (0 : Int32)), (.ref b1), (.int (0 : Int32)), (.ref a1)]) hown (hw _ (List.mem_of_getElem? (i := 49) rfl)) (hw _ (List.mem_of_getElem? (i := 15) rfl)) (hw _ (List.mem_of_getElem? (i := 16) rfl)) (hw _ (List.mem_of_getElem? (i := 17) rfl)) (by decide) (own_bk (rm_mni l Z a0 hw n1 p2 h1 n0 ) hZ (hw _ (List.mem_of_getElem? (i := 17) rfl)) (hw _ (List.mem_of_getElem? (i := 16) rfl)) (by decide) (by decide)) e1 (g := (mkF m 25 #[.val (.ref a1), .val (.int p2), .val (.ref b1)] [(.int p2), (.int n1), (.int (0 : Int32)), (.ref b1), (.int (0 : Int32)), (.ref a1)])) rfl (by rw [hml]; rfl) (lenOf pd_1 rfl) rfl (by show 2 * 0 + _ ≤ _; exact Nat.le_of_eq rfl) (hb hby d10_25) (by decide) (by decide) (fun v4 T4 h4 L4 X4 e4 q4 => ?_)
  obtain ⟨rfl, M4, s4⟩ := q4
  replace e4 : T4.heap = h1 := e4.trans s4
  have N4 := Fr.app N0 M4
  show own_Run p e below Φ (T4.setTop (mkF m 28 #[.val (.ref a1), .val (.int p2), .val (.ref b1)] [(.int (own_mini n1 p2)), (.int (0 : Int32)), (.ref b1), (.int (0 : Int32)), (.ref a1)]))
  rw [show (own_mini n1 p2) = n1 from (own_me (by omega))]
  show own_Run p e below Φ (T4.setTop (mkF m 28 #[.val (.ref a1), .val (.int p2), .val (.ref b1)] [(.int n1), (.int (0 : Int32)), (.ref b1), (.int (0 : Int32)), (.ref a1)]))
  have q1 := own_nat (p := n1) (by omega)
  have q2 := own_nat (p := p2) (by omega)
  have q0 : (0 : Int32).toNatClampNeg = 0 := by decide
  obtain ⟨T5, h5, L5, X5, e5, N5, K5, V5, st5⟩ := cpA X4 hx hZ hown (hw _ (List.mem_of_getElem? (i := 50) rfl)) (hw _ (List.mem_of_getElem? (i := 53) rfl)) (hw _ (List.mem_of_getElem? (i := 51) rfl)) (hw _ (List.mem_of_getElem? (i := 52) rfl)) e4 F3 V1 (Or.inl ⟨rfl, rfl⟩) (by decide) (by decide) (own_inb (n := p2) ⟨by omega, by omega⟩).1 (by rw [q0]; omega) (by rw [q0]; omega) rfl (by rw [q0, List.length_replicate]; omega) N4 (Nat.le_trans H2 (Nat.le_of_eq g1.symm)) (g := (mkF m 28 #[.val (.ref a1), .val (.int p2), .val (.ref b1)] [(.int n1), (.int (0 : Int32)), (.ref b1), (.int (0 : Int32)), (.ref a1)])) rfl (by rw [hml]; rfl) rfl (hb hby d10_28) (by decide) (W := 0) (by show 2 * 0 + _ ≤ _; exact Nat.le_of_eq rfl) (by decide)
  refine own_go st5 ?_
  replace V5 : Arv Z h5 b1 k1 .int p2 (own_cl (own_tr fc n1)) (.int (0 : Int32)) := V5.pad (own_cp ⟨by omega, by omega⟩)
  refine own_go (fun t k => XS.aloadN X5.here hx rfl (hb hby d10_31) rfl rfl  k) ?_
  have F6 : Keep h0 h5 [] := ((K0.ext E1).trans K5 (allS (P := fun x => x ∈ [] ∨ h0.size ≤ x) (Or.inr (Nat.le_trans K0.1 (Nat.le_of_eq g1.symm))) all0))
  subst hΦ
  exact own_retO X5 hx (t := (.array .int)) Bd.returns rfl (Or.inr (Or.inr (Or.inr (Or.inr ⟨rfl, rfl, rfl⟩)))) hlk (hb hby d10_32) e5 ⟨(by rw [g1]), N5, F6, ⟨_, by rw [← g1]; exact V5⟩⟩ (by decide) (by decide)
theorem d1_0 : decode prog_38_method_1_code 0 = .ok (.aload_n 0, 1) := by decide +kernel
theorem d1_1 : decode prog_38_method_1_code 1 = .ok (.invokespecial 1, 3) := by decide +kernel
theorem d1_4 : decode prog_38_method_1_code 4 = .ok (.aload_n 0, 1) := by decide +kernel
theorem d1_5 : decode prog_38_method_1_code 5 = .ok (.bipush 16, 2) := by decide +kernel
theorem d1_7 : decode prog_38_method_1_code 7 = .ok (.newarray .int, 2) := by decide +kernel
theorem d1_9 : decode prog_38_method_1_code 9 = .ok (.putfield 7, 3) := by decide +kernel
theorem d1_12 : decode prog_38_method_1_code 12 = .ok (.aload_n 0, 1) := by decide +kernel
theorem d1_13 : decode prog_38_method_1_code 13 = .ok (.bipush 16, 2) := by decide +kernel
theorem d1_15 : decode prog_38_method_1_code 15 = .ok (.newarray .int, 2) := by decide +kernel
theorem d1_17 : decode prog_38_method_1_code 17 = .ok (.putfield 13, 3) := by decide +kernel
theorem d1_20 : decode prog_38_method_1_code 20 = .ok (.return_, 1) := by decide +kernel
theorem pn_c1 : plainName "com/example/hueline/hueline/model/Degrees" = true := by first | (simp [plainName, overriddenIn]; done) | decide +kernel
theorem ef_1_R (m : MethodId) (x0 : Addr) : entryFrame m #[(.ref x0)] 1 = mkF m 0 #[.val (.ref x0)] [] := by first | (simp [entryFrame, mkF, argsToLocals, Value.category]; done) | rfl
set_option maxRecDepth 65536 in
set_option maxHeartbeats 40000000 in
theorem rm_d0 (l : Launch) (Z : State) (a0 : Array Value) (hw : ∀ d ∈ tables_1, d.before a0 Z = true) (a1 : Addr) (h0 : Heap) (n0 : Nat) (H1 : Exa Z h0 a1 "com/example/hueline/hueline/model/Degrees") (H2 : Fld Z h0 a1 "com/example/hueline/hueline/model/Degrees" "counts" "[I" .null) (H3 : Fld Z h0 a1 "com/example/hueline/hueline/model/Degrees" "withDegree" "[I" .null) (H4 : Fld Z h0 a1 "com/example/hueline/hueline/model/Degrees" "max" "I" (.int (0 : Int32))) (H5 : n0 ≤ a1) (H6 : n0 ≤ h0.size) :
    own_Met l Z (⟨"com/example/hueline/hueline/model/Degrees", "<init>", "()V"⟩ : MethodName) prog_38_method_1_code 1 none ({ frames := 1, cells := 2, slots := 32, locals := 12 } : Room) #[(.ref a1)] h0 (fun v h L => v = none ∧ Fr n0 L ∧ True ∧ Exa Z h a1 "com/example/hueline/hueline/model/Degrees" ∧ n0 ≤ h.size ∧ own_DEG Z h n0 a1 own_z) := by
  intro ws
  refine MetFree.of_bodySF (plainFor_of_name pn_c1) hisR ?_
  intro p e s m args below meth c s₁ Bd hml0 hP hK
  obtain ⟨rfl, hZ, hh⟩ := hP
  have hx := Bd.exec
  have hby := Bd.bytes
  have hml : c.maxLocals = 1 := hml0
  have hown : s.vm.findClass "com/example/hueline/hueline/model/Degrees" = some m.cls := findClass_of_methodNamed Bd.named
  have hnm := (name_of_methodNamed Bd.named Bd.method).1
  have hlk : meth.locks = false := Bd.notSynchronized
  have X0 : Stand p l e ({ frames := 1, cells := 2, slots := 32, locals := 12 } : Room) s m #[(.ref a1)] below meth c s₁ [] 0 0 := Stand.of_body Bd
  have e0 : s₁.heap = h0 := by rw [← hh, Bd.state]; rfl
  have N0 := Fr.nil n0
  refine own_body (Q := fun v h L => v = none ∧ Fr n0 L ∧ True ∧ Exa Z h a1 "com/example/hueline/hueline/model/Degrees" ∧ n0 ≤ h.size ∧ own_DEG Z h n0 a1 own_z) ?_
  generalize hΦ : own_Fin s below _ _ _ = Φ
  refine own_cast (ef_1_R m a1) ?_
  show own_Run p e below Φ (s₁.setTop (mkF m 0 #[.val (.ref a1)] []))
  refine own_go (fun t k => XS.aloadN X0.here hx rfl (hb hby d1_0) rfl rfl  k) ?_
  obtain ⟨T1, X1, e1, st1⟩ := initO X0 hx hZ hown (hw _ (List.mem_of_getElem? (i := 6) rfl)) (hw _ (List.mem_of_getElem? (i := 7) rfl)) (hw _ (List.mem_of_getElem? (i := 8) rfl)) e0 (g := (mkF m 1 #[.val (.ref a1)] [(.ref a1)])) rfl (by rw [hml]; rfl) rfl (hb hby d1_1) (by decide) (W := 0) (by show 2 * 0 + _ ≤ _; exact Nat.le_of_eq rfl) (by decide)
  refine own_go st1 ?_
  refine own_go (fun t k => XS.aloadN X1.here hx rfl (hb hby d1_4) rfl rfl  k) ?_
  refine own_go (fun t k => XS.bipush X1.here hx rfl (hb hby d1_5) k) ?_
  refine own_newP X1 hx hZ (hw _ (List.mem_of_getElem? (i := 9) rfl)) e1 (g := (mkF m 7 #[.val (.ref a1)] [(.int (16 : Int32)), (.ref a1)])) rfl (hb hby d1_7) rfl (by decide) 16 (by decide) (by decide) (by decide) (by decide) 128 (fun T2 h2 k2 b2 X2 e2 E2 g2 V2 => ?_)
  have ne_a1_b2 : a1 ≠ b2 := Nat.ne_of_lt (Nat.lt_of_lt_of_le H1.lt (Nat.le_of_eq g2.symm))
  replace V2 : Arv Z h2 b2 k2 .int (16 : Int32) (List.replicate 128 (Value.int (0 : Int32))) (.int (0 : Int32)) := V2
  show own_Run p e below Φ (T2.setTop (mkF m 9 #[.val (.ref a1)] [(.ref b2), (.ref a1)]))
  have F4 : Fld Z h2 a1 "com/example/hueline/hueline/model/Degrees" "counts" "[I" .null := (H2.ext E2)
  have F5 : Exa Z h2 a1 "com/example/hueline/hueline/model/Degrees" := (H1.ext E2)
  obtain ⟨T6, h6, X6, e6, W6, st6⟩ := putF X2 hx hZ hown (host := "") (Or.inl (hw _ (List.mem_of_getElem? (i := 10) rfl))) Via.refl e2 F4 F5 (Or.inl (hw _ (List.mem_of_getElem? (i := 11) rfl))) (hw _ (List.mem_of_getElem? (i := 1) rfl)) (ty := (.array .int)) (by decide) rfl rfl (g := (mkF m 9 #[.val (.ref a1)] [(.ref b2), (.ref a1)])) rfl rfl (hb hby d1_9)
  refine own_go st6 ?_
  have G6 : Fld Z h6 a1 "com/example/hueline/hueline/model/Degrees" "counts" "[I" (.ref b2) := F4.same W6
  have N6 := Fr.snoc X6 N0 H5
  refine own_go (fun t k => XS.aloadN X6.here hx rfl (hb hby d1_12) rfl rfl  k) ?_
  refine own_go (fun t k => XS.bipush X6.here hx rfl (hb hby d1_13) k) ?_
  have F8 : n0 ≤ h6.size := (Nat.le_trans (Nat.le_trans H6 E2.1) (Keep.of_wr W6).1)
  have F9 : Exa Z h6 a1 "com/example/hueline/hueline/model/Degrees" := (F5.wr W6)
  have F10 : Arv Z h6 b2 k2 .int (16 : Int32) (List.replicate 128 (Value.int (0 : Int32))) (.int (0 : Int32)) := (V2.other W6 (Ne.symm ne_a1_b2))
  refine own_newP X6 hx hZ (hw _ (List.mem_of_getElem? (i := 9) rfl)) e6 (g := (mkF m 15 #[.val (.ref a1)] [(.int (16 : Int32)), (.ref a1)])) rfl (hb hby d1_15) rfl (by decide) 16 (by decide) (by decide) (by decide) (by decide) 128 (fun T7 h7 k7 b7 X7 e7 E7 g7 V7 => ?_)
  have ne_a1_b7 : a1 ≠ b7 := Nat.ne_of_lt (Nat.lt_of_lt_of_le F9.lt (Nat.le_of_eq g7.symm))
  have ne_b2_b7 : b2 ≠ b7 := Nat.ne_of_lt (Nat.lt_of_lt_of_le F10.lt (Nat.le_of_eq g7.symm))
  replace V7 : Arv Z h7 b7 k7 .int (16 : Int32) (List.replicate 128 (Value.int (0 : Int32))) (.int (0 : Int32)) := V7
  have F12 : Fld Z h7 a1 "com/example/hueline/hueline/model/Degrees" "withDegree" "[I" .null := (((H3.ext E2).other W6 (Or.inr (slot_ne (Or.inl (hw _ (List.mem_of_getElem? (i := 13) rfl))) (Or.inl (hw _ (List.mem_of_getElem? (i := 11) rfl))) (by decide) (t := (.array .int)) (t' := (.array .int)) (by decide) (by decide)))).ext E7)
  have F13 : Exa Z h7 a1 "com/example/hueline/hueline/model/Degrees" := (F9.ext E7)
  obtain ⟨T14, h14, X14, e14, W14, st14⟩ := putF X7 hx hZ hown (host := "") (Or.inl (hw _ (List.mem_of_getElem? (i := 12) rfl))) Via.refl e7 F12 F13 (Or.inl (hw _ (List.mem_of_getElem? (i := 13) rfl))) (hw _ (List.mem_of_getElem? (i := 1) rfl)) (ty := (.array .int)) (by decide) rfl rfl (g := (mkF m 17 #[.val (.ref a1)] [(.ref b7), (.ref a1)])) rfl rfl (hb hby d1_17)
  refine own_go st14 ?_
  have G14 : Fld Z h14 a1 "com/example/hueline/hueline/model/Degrees" "withDegree" "[I" (.ref b7) := F12.same W14
  have N14 := Fr.snoc X14 N6 H5
  show own_Run p e below Φ (T14.setTop (mkF m 20 #[.val (.ref a1)] []))
  have F15 : Exa Z h14 a1 "com/example/hueline/hueline/model/Degrees" := (F13.wr W14)
  have F16 : n0 ≤ h14.size := (Nat.le_trans (Nat.le_trans F8 E7.1) (Keep.of_wr W14).1)
  have F17 : Fld Z h14 a1 "com/example/hueline/hueline/model/Degrees" "counts" "[I" (.ref b2) := ((G6.ext E7).other W14 (Or.inr (slot_ne (Or.inl (hw _ (List.mem_of_getElem? (i := 11) rfl))) (Or.inl (hw _ (List.mem_of_getElem? (i := 13) rfl))) (by decide) (t := (.array .int)) (t' := (.array .int)) (by decide) (by decide))))
  have F18 : Fld Z h14 a1 "com/example/hueline/hueline/model/Degrees" "max" "I" (.int (0 : Int32)) := ((((H4.ext E2).other W6 (Or.inr (slot_ne (Or.inl (hw _ (List.mem_of_getElem? (i := 24) rfl))) (Or.inl (hw _ (List.mem_of_getElem? (i := 11) rfl))) (by decide) (t := .int) (t' := (.array .int)) (by decide) (by decide)))).ext E7).other W14 (Or.inr (slot_ne (Or.inl (hw _ (List.mem_of_getElem? (i := 24) rfl))) (Or.inl (hw _ (List.mem_of_getElem? (i := 13) rfl))) (by decide) (t := .int) (t' := (.array .int)) (by decide) (by decide))))
  have F19 : Arv Z h14 b2 k2 .int (16 : Int32) (List.replicate 128 (Value.int (0 : Int32))) (.int (0 : Int32)) := ((F10.ext E7).other W14 (Ne.symm ne_a1_b2))
  have F20 : Arv Z h14 b7 k7 .int (16 : Int32) (List.replicate 128 (Value.int (0 : Int32))) (.int (0 : Int32)) := (V7.other W14 (Ne.symm ne_a1_b7))
  subst hΦ
  exact own_retV X14 hx Bd.returns hlk (hb hby d1_20) e14 ⟨rfl, N14, trivial, F15, F16, ⟨b2, _, (16 : Int32), b7, _, (16 : Int32), own_z, (0 : Int32), H5, (Nat.le_trans H6 (Nat.le_of_eq g2.symm)), (Nat.le_trans F8 (Nat.le_of_eq g7.symm)), (Ne.symm ne_a1_b2), (Ne.symm ne_a1_b7), ne_b2_b7, (by decide), (by decide), (by decide), (fun _ _ => rfl), (fun _ => (by decide : 0 ≤ (0 : Int32).toInt ∧ (0 : Int32).toInt < (16 : Int32).toInt)), F15, F17, G14, F18, (own_cl_z ▸ F19), (own_cl_z ▸ F20)⟩⟩ (by decide) (by decide)
theorem d6_0 : decode prog_38_method_3_code 0 = .ok (.iload_n 1, 1) := by decide +kernel
theorem d6_1 : decode prog_38_method_3_code 1 = .ok (.aload_n 0, 1) := by decide +kernel
theorem d6_2 : decode prog_38_method_3_code 2 = .ok (.getfield 7, 3) := by decide +kernel
theorem d6_5 : decode prog_38_method_3_code 5 = .ok (.arraylength, 1) := by decide +kernel
theorem d6_6 : decode prog_38_method_3_code 6 = .ok (.if_icmp .ge 12, 3) := by decide +kernel
theorem d6_9 : decode prog_38_method_3_code 9 = .ok (.aload_n 0, 1) := by decide +kernel
theorem d6_10 : decode prog_38_method_3_code 10 = .ok (.getfield 7, 3) := by decide +kernel
theorem d6_13 : decode prog_38_method_3_code 13 = .ok (.iload_n 1, 1) := by decide +kernel
theorem d6_14 : decode prog_38_method_3_code 14 = .ok (.iaload, 1) := by decide +kernel
theorem d6_15 : decode prog_38_method_3_code 15 = .ok (.goto 4, 3) := by decide +kernel
theorem d6_18 : decode prog_38_method_3_code 18 = .ok (.iconst 0, 1) := by decide +kernel
theorem d6_19 : decode prog_38_method_3_code 19 = .ok (.ireturn, 1) := by decide +kernel
theorem ef_6_RI (m : MethodId) (x0 : Addr) (x1 : Int32) : entryFrame m #[(.ref x0), (.int x1)] 2 = mkF m 0 #[.val (.ref x0), .val (.int x1)] [] := by first | (simp [entryFrame, mkF, argsToLocals, Value.category]; done) | rfl
set_option maxRecDepth 65536 in
set_option maxHeartbeats 40000000 in
theorem rm_of (l : Launch) (Z : State) (a0 : Array Value) (hw : ∀ d ∈ tables_1, d.before a0 Z = true) (a1 : Addr) (p1 : Int32) (fc : Int32 → Int32) (h0 : Heap) (n0 : Nat) (H1 : own_DEG Z h0 n0 a1 fc) (hp : 0 ≤ p1.toInt) :
    own_Met l Z (⟨"com/example/hueline/hueline/model/Degrees", "of", "(I)I"⟩ : MethodName) prog_38_method_3_code 2 (some .int) ({ frames := 0, cells := 0, slots := 0, locals := 0 } : Room) #[(.ref a1), (.int p1)] h0 (fun v h L => v = some (.int (fc p1)) ∧ Fr n0 L ∧ h = h0) := by
  intro ws
  refine MetFree.of_bodySF (plainFor_of_name pn_c1) hisR ?_
  intro p e s m args below meth c s₁ Bd hml0 hP hK
  obtain ⟨rfl, hZ, hh⟩ := hP
  have hx := Bd.exec
  have hby := Bd.bytes
  have hml : c.maxLocals = 2 := hml0
  have hown : s.vm.findClass "com/example/hueline/hueline/model/Degrees" = some m.cls := findClass_of_methodNamed Bd.named
  have hnm := (name_of_methodNamed Bd.named Bd.method).1
  have hlk : meth.locks = false := Bd.notSynchronized
  have X0 : Stand p l e ({ frames := 0, cells := 0, slots := 0, locals := 0 } : Room) s m #[(.ref a1), (.int p1)] below meth c s₁ [] 0 0 := Stand.of_body Bd
  have e0 : s₁.heap = h0 := by rw [← hh, Bd.state]; rfl
  have N0 := Fr.nil n0
  refine own_body (Q := fun v h L => v = some (.int (fc p1)) ∧ Fr n0 L ∧ h = h0) ?_
  generalize hΦ : own_Fin s below _ _ _ = Φ
  refine own_cast (ef_6_RI m a1 p1) ?_
  show own_Run p e below Φ (s₁.setTop (mkF m 0 #[.val (.ref a1), .val (.int p1)] []))
  obtain ⟨xc, kc, nc, xw, kw, nw, gw, mx, hga, hgc, hgw, nca, nwa, ncw, hN, hW, hmx, hf0, hfb, FE, Fc, Fw, Fm, Vc, Vw⟩ := H1
  show own_Run p e below Φ (s₁.setTop (mkF m 0 #[.val (.ref a1), .val (.int p1)] []))
  refine own_go (fun t k => XS.iloadN X0.here hx rfl (hb hby d6_0) rfl  k) ?_
  refine own_go (fun t k => XS.aloadN X0.here hx rfl (hb hby d6_1) rfl rfl  k) ?_
  obtain ⟨T1, X1, e1, st1⟩ := getF X0 hx hZ hown (host := "") (Or.inl (hw _ (List.mem_of_getElem? (i := 10) rfl))) Via.refl e0 Fc (g := (mkF m 2 #[.val (.ref a1), .val (.int p1)] [(.ref a1), (.int p1)])) rfl rfl (hb hby d6_2)
  refine own_go st1 ?_
  refine own_arrlen X1 hx hZ e1 Vc (g := (mkF m 5 #[.val (.ref a1), .val (.int p1)] [(.ref xc), (.int p1)])) rfl rfl (hb hby d6_5) ?_
  by_cases hc6 : p1 < nc
  · refine own_go (fun t k => XS.icmpNo X1.here hx rfl (hb hby d6_6) rfl (tlt hc6).2.1 k) ?_
    show own_Run p e below Φ (T1.setTop (mkF m 9 #[.val (.ref a1), .val (.int p1)] []))
    refine own_go (fun t k => XS.aloadN X1.here hx rfl (hb hby d6_9) rfl rfl  k) ?_
    obtain ⟨T2, X2, e2, st2⟩ := getF X1 hx hZ hown (host := "") (Or.inl (hw _ (List.mem_of_getElem? (i := 10) rfl))) Via.refl e1 Fc (g := (mkF m 10 #[.val (.ref a1), .val (.int p1)] [(.ref a1)])) rfl rfl (hb hby d6_10)
    refine own_go st2 ?_
    refine own_go (fun t k => XS.iloadN X2.here hx rfl (hb hby d6_13) rfl  k) ?_
    refine own_iaload X2 hx hZ e2 Vc (j := p1) (v := (.int (fc p1))) (own_inb ⟨hp, by rw [Int32.lt_iff_toInt_lt] at hc6; exact hc6⟩) (own_cl_g ⟨hp, by rw [Int32.lt_iff_toInt_lt] at hc6; omega⟩) (g := (mkF m 14 #[.val (.ref a1), .val (.int p1)] [(.int p1), (.ref xc)])) rfl rfl (hb hby d6_14) ?_
    refine own_go (fun t k => XS.goto X2.here hx rfl (pc0 := 15) (pc' := 19) rfl (hb hby d6_15) (by decide) (by decide) k) ?_
    show own_Run p e below Φ (T2.setTop (mkF m 19 #[.val (.ref a1), .val (.int p1)] [(.int (fc p1))]))
    subst hΦ
    exact own_retI X2 hx Bd.returns hlk (hb hby d6_19) e2 ⟨rfl, N0, rfl⟩ (by decide) (by decide)
  · refine own_go (fun t k => XS.icmpYes X1.here hx rfl (pc0 := 6) (pc' := 18) rfl (hb hby d6_6) rfl (flt hc6).2.1 (by decide) (by decide) k) ?_
    refine own_go (fun t k => XS.iconst X1.here hx rfl (hb hby d6_18) k) ?_
    subst hΦ
    exact own_retI X1 hx Bd.returns hlk (hb hby d6_19) e1 ⟨(by rw [hf0 p1 (by rw [Int32.lt_iff_toInt_lt] at hc6; omega)]; rfl), N0, rfl⟩ (by decide) (by decide)
theorem d4_0 : decode prog_38_method_2_code 0 = .ok (.iload_n 1, 1) := by decide +kernel
theorem d4_1 : decode prog_38_method_2_code 1 = .ok (.aload_n 0, 1) := by decide +kernel
theorem d4_2 : decode prog_38_method_2_code 2 = .ok (.getfield 7, 3) := by decide +kernel
theorem d4_5 : decode prog_38_method_2_code 5 = .ok (.arraylength, 1) := by decide +kernel
theorem d4_6 : decode prog_38_method_2_code 6 = .ok (.if_icmp .lt 24, 3) := by decide +kernel
theorem d4_9 : decode prog_38_method_2_code 9 = .ok (.aload_n 0, 1) := by decide +kernel
theorem d4_10 : decode prog_38_method_2_code 10 = .ok (.aload_n 0, 1) := by decide +kernel
theorem d4_11 : decode prog_38_method_2_code 11 = .ok (.getfield 7, 3) := by decide +kernel
theorem d4_14 : decode prog_38_method_2_code 14 = .ok (.aload_n 0, 1) := by decide +kernel
theorem d4_15 : decode prog_38_method_2_code 15 = .ok (.getfield 7, 3) := by decide +kernel
theorem d4_18 : decode prog_38_method_2_code 18 = .ok (.arraylength, 1) := by decide +kernel
theorem d4_19 : decode prog_38_method_2_code 19 = .ok (.iload_n 1, 1) := by decide +kernel
theorem d4_20 : decode prog_38_method_2_code 20 = .ok (.i2l, 1) := by decide +kernel
theorem d4_21 : decode prog_38_method_2_code 21 = .ok (.invokestatic 16, 3) := by decide +kernel
theorem d4_24 : decode prog_38_method_2_code 24 = .ok (.invokestatic 22, 3) := by decide +kernel
theorem d4_27 : decode prog_38_method_2_code 27 = .ok (.putfield 7, 3) := by decide +kernel
theorem d4_30 : decode prog_38_method_2_code 30 = .ok (.aload_n 0, 1) := by decide +kernel
theorem d4_31 : decode prog_38_method_2_code 31 = .ok (.getfield 7, 3) := by decide +kernel
theorem d4_34 : decode prog_38_method_2_code 34 = .ok (.iload_n 1, 1) := by decide +kernel
theorem d4_35 : decode prog_38_method_2_code 35 = .ok (.iaload, 1) := by decide +kernel
theorem d4_36 : decode prog_38_method_2_code 36 = .ok (.istore_n 3, 1) := by decide +kernel
theorem d4_37 : decode prog_38_method_2_code 37 = .ok (.iload_n 3, 1) := by decide +kernel
theorem d4_38 : decode prog_38_method_2_code 38 = .ok (.iload_n 2, 1) := by decide +kernel
theorem d4_39 : decode prog_38_method_2_code 39 = .ok (.iadd, 1) := by decide +kernel
theorem d4_40 : decode prog_38_method_2_code 40 = .ok (.istore 4, 2) := by decide +kernel
theorem d4_42 : decode prog_38_method_2_code 42 = .ok (.iload 4, 2) := by decide +kernel
theorem d4_44 : decode prog_38_method_2_code 44 = .ok (.aload_n 0, 1) := by decide +kernel
theorem d4_45 : decode prog_38_method_2_code 45 = .ok (.getfield 13, 3) := by decide +kernel
theorem d4_48 : decode prog_38_method_2_code 48 = .ok (.arraylength, 1) := by decide +kernel
theorem d4_49 : decode prog_38_method_2_code 49 = .ok (.if_icmp .lt 25, 3) := by decide +kernel
theorem d4_52 : decode prog_38_method_2_code 52 = .ok (.aload_n 0, 1) := by decide +kernel
theorem d4_53 : decode prog_38_method_2_code 53 = .ok (.aload_n 0, 1) := by decide +kernel
theorem d4_54 : decode prog_38_method_2_code 54 = .ok (.getfield 13, 3) := by decide +kernel
theorem d4_57 : decode prog_38_method_2_code 57 = .ok (.aload_n 0, 1) := by decide +kernel
theorem d4_58 : decode prog_38_method_2_code 58 = .ok (.getfield 13, 3) := by decide +kernel
theorem d4_61 : decode prog_38_method_2_code 61 = .ok (.arraylength, 1) := by decide +kernel
theorem d4_62 : decode prog_38_method_2_code 62 = .ok (.iload 4, 2) := by decide +kernel
theorem d4_64 : decode prog_38_method_2_code 64 = .ok (.i2l, 1) := by decide +kernel
theorem d4_65 : decode prog_38_method_2_code 65 = .ok (.invokestatic 16, 3) := by decide +kernel
theorem d4_68 : decode prog_38_method_2_code 68 = .ok (.invokestatic 22, 3) := by decide +kernel
theorem d4_71 : decode prog_38_method_2_code 71 = .ok (.putfield 13, 3) := by decide +kernel
theorem d4_74 : decode prog_38_method_2_code 74 = .ok (.aload_n 0, 1) := by decide +kernel
theorem d4_75 : decode prog_38_method_2_code 75 = .ok (.getfield 7, 3) := by decide +kernel
theorem d4_78 : decode prog_38_method_2_code 78 = .ok (.iload_n 1, 1) := by decide +kernel
theorem d4_79 : decode prog_38_method_2_code 79 = .ok (.iload 4, 2) := by decide +kernel
theorem d4_81 : decode prog_38_method_2_code 81 = .ok (.iastore, 1) := by decide +kernel
theorem d4_82 : decode prog_38_method_2_code 82 = .ok (.iload_n 3, 1) := by decide +kernel
theorem d4_83 : decode prog_38_method_2_code 83 = .ok (.ifCond .le 13, 3) := by decide +kernel
theorem d4_86 : decode prog_38_method_2_code 86 = .ok (.aload_n 0, 1) := by decide +kernel
theorem d4_87 : decode prog_38_method_2_code 87 = .ok (.getfield 13, 3) := by decide +kernel
theorem d4_90 : decode prog_38_method_2_code 90 = .ok (.iload_n 3, 1) := by decide +kernel
theorem d4_91 : decode prog_38_method_2_code 91 = .ok (.dup2, 1) := by decide +kernel
theorem d4_92 : decode prog_38_method_2_code 92 = .ok (.iaload, 1) := by decide +kernel
theorem d4_93 : decode prog_38_method_2_code 93 = .ok (.iconst 1, 1) := by decide +kernel
theorem d4_94 : decode prog_38_method_2_code 94 = .ok (.isub, 1) := by decide +kernel
theorem d4_95 : decode prog_38_method_2_code 95 = .ok (.iastore, 1) := by decide +kernel
theorem d4_96 : decode prog_38_method_2_code 96 = .ok (.iload 4, 2) := by decide +kernel
theorem d4_98 : decode prog_38_method_2_code 98 = .ok (.ifCond .le 14, 3) := by decide +kernel
theorem d4_101 : decode prog_38_method_2_code 101 = .ok (.aload_n 0, 1) := by decide +kernel
theorem d4_102 : decode prog_38_method_2_code 102 = .ok (.getfield 13, 3) := by decide +kernel
theorem d4_105 : decode prog_38_method_2_code 105 = .ok (.iload 4, 2) := by decide +kernel
theorem d4_107 : decode prog_38_method_2_code 107 = .ok (.dup2, 1) := by decide +kernel
theorem d4_108 : decode prog_38_method_2_code 108 = .ok (.iaload, 1) := by decide +kernel
theorem d4_109 : decode prog_38_method_2_code 109 = .ok (.iconst 1, 1) := by decide +kernel
theorem d4_110 : decode prog_38_method_2_code 110 = .ok (.iadd, 1) := by decide +kernel
theorem d4_111 : decode prog_38_method_2_code 111 = .ok (.iastore, 1) := by decide +kernel
theorem d4_112 : decode prog_38_method_2_code 112 = .ok (.aload_n 0, 1) := by decide +kernel
theorem d4_113 : decode prog_38_method_2_code 113 = .ok (.aload_n 0, 1) := by decide +kernel
theorem d4_114 : decode prog_38_method_2_code 114 = .ok (.getfield 28, 3) := by decide +kernel
theorem d4_117 : decode prog_38_method_2_code 117 = .ok (.iload 4, 2) := by decide +kernel
theorem d4_119 : decode prog_38_method_2_code 119 = .ok (.invokestatic 32, 3) := by decide +kernel
theorem d4_122 : decode prog_38_method_2_code 122 = .ok (.putfield 28, 3) := by decide +kernel
theorem d4_125 : decode prog_38_method_2_code 125 = .ok (.aload_n 0, 1) := by decide +kernel
theorem d4_126 : decode prog_38_method_2_code 126 = .ok (.getfield 28, 3) := by decide +kernel
theorem d4_129 : decode prog_38_method_2_code 129 = .ok (.ifCond .le 28, 3) := by decide +kernel
theorem d4_132 : decode prog_38_method_2_code 132 = .ok (.aload_n 0, 1) := by decide +kernel
theorem d4_133 : decode prog_38_method_2_code 133 = .ok (.getfield 13, 3) := by decide +kernel
theorem d4_136 : decode prog_38_method_2_code 136 = .ok (.aload_n 0, 1) := by decide +kernel
theorem d4_137 : decode prog_38_method_2_code 137 = .ok (.getfield 28, 3) := by decide +kernel
theorem d4_140 : decode prog_38_method_2_code 140 = .ok (.iaload, 1) := by decide +kernel
theorem d4_141 : decode prog_38_method_2_code 141 = .ok (.ifCond .ne 16, 3) := by decide +kernel
theorem d4_144 : decode prog_38_method_2_code 144 = .ok (.aload_n 0, 1) := by decide +kernel
theorem d4_145 : decode prog_38_method_2_code 145 = .ok (.dup, 1) := by decide +kernel
theorem d4_146 : decode prog_38_method_2_code 146 = .ok (.getfield 28, 3) := by decide +kernel
theorem d4_149 : decode prog_38_method_2_code 149 = .ok (.iconst 1, 1) := by decide +kernel
theorem d4_150 : decode prog_38_method_2_code 150 = .ok (.isub, 1) := by decide +kernel
theorem d4_151 : decode prog_38_method_2_code 151 = .ok (.putfield 28, 3) := by decide +kernel
theorem d4_154 : decode prog_38_method_2_code 154 = .ok (.goto (-29), 3) := by decide +kernel
theorem d4_157 : decode prog_38_method_2_code 157 = .ok (.iload 4, 2) := by decide +kernel
theorem d4_159 : decode prog_38_method_2_code 159 = .ok (.ireturn, 1) := by decide +kernel
theorem pd_3 : parseMethodDescriptor "(IJ)I" = some ⟨[.int, .long], some .int⟩ := by decide +kernel
theorem pd_5 : parseMethodDescriptor "([II)[I" = some ⟨[(.array .int), .int], some (.array .int)⟩ := by decide +kernel
theorem ef_4_RII (m : MethodId) (x0 : Addr) (x1 : Int32) (x2 : Int32) : entryFrame m #[(.ref x0), (.int x1), (.int x2)] 5 = mkF m 0 #[.val (.ref x0), .val (.int x1), .val (.int x2), .unset, .unset] [] := by first | (simp [entryFrame, mkF, argsToLocals, Value.category]; done) | rfl
set_option maxRecDepth 65536 in
set_option maxHeartbeats 40000000 in
theorem rm_add (l : Launch) (Z : State) (a0 : Array Value) (hw : ∀ d ∈ tables_1, d.before a0 Z = true) (a1 : Addr) (p1 : Int32) (p2 : Int32) (fc : Int32 → Int32) (h0 : Heap) (n0 : Nat) (H1 : own_DEG Z h0 n0 a1 fc) (H2 : n0 ≤ h0.size) (hp : 0 ≤ p1.toInt ∧ p1.toInt < 64) (hd : 0 ≤ ((fc p1) + p2).toInt ∧ ((fc p1) + p2).toInt ≤ 30) :
    own_Met l Z (⟨"com/example/hueline/hueline/model/Degrees", "add", "(II)I"⟩ : MethodName) prog_38_method_2_code 5 (some .int) ({ frames := 2, cells := 2, slots := 158, locals := 33 } : Room) #[(.ref a1), (.int p1), (.int p2)] h0 (fun v h L => v = some (.int ((fc p1) + p2)) ∧ Fr n0 L ∧ True ∧ Exa Z h a1 "com/example/hueline/hueline/model/Degrees" ∧ n0 ≤ h.size ∧ own_DEG Z h n0 a1 (own_upd fc p1 ((fc p1) + p2))) := by
  intro ws
  refine MetFree.of_bodySF (plainFor_of_name pn_c1) hisR ?_
  intro p e s m args below meth c s₁ Bd hml0 hP hK
  obtain ⟨rfl, hZ, hh⟩ := hP
  have hx := Bd.exec
  have hby := Bd.bytes
  have hml : c.maxLocals = 5 := hml0
  have hown : s.vm.findClass "com/example/hueline/hueline/model/Degrees" = some m.cls := findClass_of_methodNamed Bd.named
  have hnm := (name_of_methodNamed Bd.named Bd.method).1
  have hlk : meth.locks = false := Bd.notSynchronized
  have X0 : Stand p l e ({ frames := 2, cells := 2, slots := 158, locals := 33 } : Room) s m #[(.ref a1), (.int p1), (.int p2)] below meth c s₁ [] 0 0 := Stand.of_body Bd
  have e0 : s₁.heap = h0 := by rw [← hh, Bd.state]; rfl
  have N0 := Fr.nil n0
  refine own_body (Q := fun v h L => v = some (.int ((fc p1) + p2)) ∧ Fr n0 L ∧ True ∧ Exa Z h a1 "com/example/hueline/hueline/model/Degrees" ∧ n0 ≤ h.size ∧ own_DEG Z h n0 a1 (own_upd fc p1 ((fc p1) + p2))) ?_
  generalize hΦ : own_Fin s below _ _ _ = Φ
  refine own_cast (ef_4_RII m a1 p1 p2) ?_
  show own_Run p e below Φ (s₁.setTop (mkF m 0 #[.val (.ref a1), .val (.int p1), .val (.int p2), .unset, .unset] []))
  obtain ⟨xc, kc, nc, xw, kw, nw, gw, mx, hga, hgc, hgw, nca, nwa, ncw, hN, hW, hmx, hf0, hfb, FE, Fc, Fw, Fm, Vc, Vw⟩ := H1
  show own_Run p e below Φ (s₁.setTop (mkF m 0 #[.val (.ref a1), .val (.int p1), .val (.int p2), .unset, .unset] []))
  refine own_go (fun t k => XS.iloadN X0.here hx rfl (hb hby d4_0) rfl  k) ?_
  refine own_go (fun t k => XS.aloadN X0.here hx rfl (hb hby d4_1) rfl rfl  k) ?_
  show own_Run p e below Φ (s₁.setTop (mkF m 2 #[.val (.ref a1), .val (.int p1), .val (.int p2), .unset, .unset] [(.ref a1), (.int p1)]))
  obtain ⟨T1, X1, e1, st1⟩ := getF X0 hx hZ hown (host := "") (Or.inl (hw _ (List.mem_of_getElem? (i := 10) rfl))) Via.refl e0 Fc (g := (mkF m 2 #[.val (.ref a1), .val (.int p1), .val (.int p2), .unset, .unset] [(.ref a1), (.int p1)])) rfl rfl (hb hby d4_2)
  refine own_go st1 ?_
  refine own_arrlen X1 hx hZ e1 Vc (g := (mkF m 5 #[.val (.ref a1), .val (.int p1), .val (.int p2), .unset, .unset] [(.ref xc), (.int p1)])) rfl rfl (hb hby d4_5) ?_
  show own_Run p e below Φ (T1.setTop (mkF m 6 #[.val (.ref a1), .val (.int p1), .val (.int p2), .unset, .unset] [(.int nc), (.int p1)]))
  have J30_2 : ∀ (xc : Addr) (kc : ClassId) (nc : Int32) (xw : Addr) (kw : ClassId) (nw : Int32) (gw : Int32 → Int32) (mx : Int32) (T3 : State) (h3 : Heap) (l3 : List Loc) (c3 z3 : Nat), (Stand p l e ({ frames := 2, cells := 2, slots := 158, locals := 33 } : Room) s m #[(.ref a1), (.int p1), (.int p2)] below meth c T3 l3 c3 z3) → (T3.heap = h3) → (Fr n0 l3) → (c3 ≤ 1) → (z3 ≤ 126) → (Exa Z h3 a1 "com/example/hueline/hueline/model/Degrees") → (Fld Z h3 a1 "com/example/hueline/hueline/model/Degrees" "counts" "[I" (.ref xc)) → (Fld Z h3 a1 "com/example/hueline/hueline/model/Degrees" "withDegree" "[I" (.ref xw)) → (Fld Z h3 a1 "com/example/hueline/hueline/model/Degrees" "max" "I" (.int mx)) → (Arv Z h3 xc kc .int nc (own_cl fc) (.int (0 : Int32))) → (Arv Z h3 xw kw .int nw (own_cl gw) (.int (0 : Int32))) → (n0 ≤ h3.size) → (n0 ≤ xc) → (n0 ≤ xw) → (xc ≠ a1) → (xw ≠ a1) → (xc ≠ xw) → (16 ≤ nc.toInt ∧ nc.toInt ≤ 126) → (nw.toInt = 16 ∨ nw.toInt = 32) → (0 ≤ mx.toInt ∧ mx.toInt < nw.toInt) → (∀ x : Int32, nc.toInt ≤ x.toInt → fc x = 0) → (∀ x : Int32, 0 ≤ (fc x).toInt ∧ (fc x).toInt < nw.toInt) → (p1.toInt < nc.toInt) → own_Run p e below Φ (T3.setTop (mkF m 30 #[.val (.ref a1), .val (.int p1), .val (.int p2), .unset, .unset] [])) := by
    intro xc kc nc xw kw nw gw mx T3 h3 l3 c3 z3 X3 e3 N3 hc3 hs3 F4 F5 F6 F7 F8 F9 F10 hgc hgw nca nwa ncw hN hW hmx hf0 hfb hpn
    show own_Run p e below Φ (T3.setTop (mkF m 30 #[.val (.ref a1), .val (.int p1), .val (.int p2), .unset, .unset] []))
    refine own_go (fun t k => XS.aloadN X3.here hx rfl (hb hby d4_30) rfl rfl  k) ?_
    obtain ⟨T11, X11, e11, st11⟩ := getF X3 hx hZ hown (host := "") (Or.inl (hw _ (List.mem_of_getElem? (i := 10) rfl))) Via.refl e3 F5 (g := (mkF m 31 #[.val (.ref a1), .val (.int p1), .val (.int p2), .unset, .unset] [(.ref a1)])) rfl rfl (hb hby d4_31)
    refine own_go st11 ?_
    refine own_go (fun t k => XS.iloadN X11.here hx rfl (hb hby d4_34) rfl  k) ?_
    refine own_iaload X11 hx hZ e11 F8 (j := p1) (v := (.int (fc p1))) (own_inb ⟨by omega, by omega⟩) (own_cl_g ⟨by omega, by omega⟩) (g := (mkF m 35 #[.val (.ref a1), .val (.int p1), .val (.int p2), .unset, .unset] [(.int p1), (.ref xc)])) rfl rfl (hb hby d4_35) ?_
    refine own_go (fun t k => XS.istoreN X11.here hx rfl (hb hby d4_36) rfl (l' := #[.val (.ref a1), .val (.int p1), .val (.int p2), .val (.int (fc p1)), .unset]) rfl k) ?_
    show own_Run p e below Φ (T11.setTop (mkF m 37 #[.val (.ref a1), .val (.int p1), .val (.int p2), .val (.int (fc p1)), .unset] []))
    refine own_go (fun t k => XS.iloadN X11.here hx rfl (hb hby d4_37) rfl  k) ?_
    refine own_go (fun t k => XS.iloadN X11.here hx rfl (hb hby d4_38) rfl  k) ?_
    refine own_go (fun t k => XS.iadd X11.here hx rfl (hb hby d4_39) rfl k) ?_
    refine own_go (fun t k => XS.istore X11.here hx rfl (hb hby d4_40) rfl (l' := #[.val (.ref a1), .val (.int p1), .val (.int p2), .val (.int (fc p1)), .val (.int ((fc p1) + p2))]) rfl k) ?_
    show own_Run p e below Φ (T11.setTop (mkF m 42 #[.val (.ref a1), .val (.int p1), .val (.int p2), .val (.int (fc p1)), .val (.int ((fc p1) + p2))] []))
    have J74_12 : ∀ (xc : Addr) (kc : ClassId) (nc : Int32) (xw : Addr) (kw : ClassId) (nw : Int32) (gw : Int32 → Int32) (mx : Int32) (T13 : State) (h13 : Heap) (l13 : List Loc) (c13 z13 : Nat), (Stand p l e ({ frames := 2, cells := 2, slots := 158, locals := 33 } : Room) s m #[(.ref a1), (.int p1), (.int p2)] below meth c T13 l13 c13 z13) → (T13.heap = h13) → (Fr n0 l13) → (c13 ≤ 2) → (z13 ≤ 158) → (Exa Z h13 a1 "com/example/hueline/hueline/model/Degrees") → (Fld Z h13 a1 "com/example/hueline/hueline/model/Degrees" "counts" "[I" (.ref xc)) → (Fld Z h13 a1 "com/example/hueline/hueline/model/Degrees" "withDegree" "[I" (.ref xw)) → (Fld Z h13 a1 "com/example/hueline/hueline/model/Degrees" "max" "I" (.int mx)) → (Arv Z h13 xc kc .int nc (own_cl fc) (.int (0 : Int32))) → (Arv Z h13 xw kw .int nw (own_cl gw) (.int (0 : Int32))) → (n0 ≤ h13.size) → (n0 ≤ xc) → (n0 ≤ xw) → (xc ≠ a1) → (xw ≠ a1) → (xc ≠ xw) → (16 ≤ nc.toInt ∧ nc.toInt ≤ 126) → (nw.toInt = 16 ∨ nw.toInt = 32) → (0 ≤ mx.toInt ∧ mx.toInt < nw.toInt) → (∀ x : Int32, nc.toInt ≤ x.toInt → fc x = 0) → (∀ x : Int32, 0 ≤ (fc x).toInt ∧ (fc x).toInt < nw.toInt) → (p1.toInt < nc.toInt) → (((fc p1) + p2).toInt < nw.toInt) → own_Run p e below Φ (T13.setTop (mkF m 74 #[.val (.ref a1), .val (.int p1), .val (.int p2), .val (.int (fc p1)), .val (.int ((fc p1) + p2))] [])) := by
      intro xc kc nc xw kw nw gw mx T13 h13 l13 c13 z13 X13 e13 N13 hc13 hs13 F14 F15 F16 F17 F18 F19 F20 hgc hgw nca nwa ncw hN hW hmx hf0 hfb hpn han
      show own_Run p e below Φ (T13.setTop (mkF m 74 #[.val (.ref a1), .val (.int p1), .val (.int p2), .val (.int (fc p1)), .val (.int ((fc p1) + p2))] []))
      refine own_go (fun t k => XS.aloadN X13.here hx rfl (hb hby d4_74) rfl rfl  k) ?_
      obtain ⟨T21, X21, e21, st21⟩ := getF X13 hx hZ hown (host := "") (Or.inl (hw _ (List.mem_of_getElem? (i := 10) rfl))) Via.refl e13 F15 (g := (mkF m 75 #[.val (.ref a1), .val (.int p1), .val (.int p2), .val (.int (fc p1)), .val (.int ((fc p1) + p2))] [(.ref a1)])) rfl rfl (hb hby d4_75)
      refine own_go st21 ?_
      refine own_go (fun t k => XS.iloadN X21.here hx rfl (hb hby d4_78) rfl  k) ?_
      refine own_go (fun t k => XS.iload X21.here hx rfl (hb hby d4_79) rfl  k) ?_
      refine own_iastore X21 hx hZ e21 F18 (j := p1) (own_inb ⟨by omega, by omega⟩) (p1).toNatClampNeg rfl (own_cl_l (p := p1) ⟨by omega, by omega⟩) (g := (mkF m 81 #[.val (.ref a1), .val (.int p1), .val (.int p2), .val (.int (fc p1)), .val (.int ((fc p1) + p2))] [(.int ((fc p1) + p2)), (.int p1), (.ref xc)])) rfl rfl (hb hby d4_81) (fun T22 h22 X22 e22 W22 V22 => ?_)
      replace V22 : Arv Z h22 xc kc .int nc (own_cl (own_upd fc p1 ((fc p1) + p2))) (.int (0 : Int32)) := (by rw [← own_cl_s (f := fc) (p := p1) ((fc p1) + p2) ⟨by omega, by omega⟩]; exact V22)
      have N22 := Fr.snoc X22 N13 hgc
      show own_Run p e below Φ (T22.setTop (mkF m 82 #[.val (.ref a1), .val (.int p1), .val (.int p2), .val (.int (fc p1)), .val (.int ((fc p1) + p2))] []))
      have hbn := hfb p1
      have hf2 : ∀ x : Int32, nc.toInt ≤ x.toInt → (own_upd fc p1 ((fc p1) + p2)) x = 0 := fun x h => (own_n (fun q => by rw [q] at h; omega)).trans (hf0 x h)
      have hb2 : ∀ x : Int32, 0 ≤ ((own_upd fc p1 ((fc p1) + p2)) x).toInt ∧ ((own_upd fc p1 ((fc p1) + p2)) x).toInt < nw.toInt := fun x => if q : x = p1 then (by rw [own_e q]; omega) else (by rw [own_n q]; exact hfb x)
      have J96_23 : ∀ (xc : Addr) (kc : ClassId) (nc : Int32) (xw : Addr) (kw : ClassId) (nw : Int32) (gw : Int32 → Int32) (mx : Int32) (T24 : State) (h24 : Heap) (l24 : List Loc) (c24 z24 : Nat), (Stand p l e ({ frames := 2, cells := 2, slots := 158, locals := 33 } : Room) s m #[(.ref a1), (.int p1), (.int p2)] below meth c T24 l24 c24 z24) → (T24.heap = h24) → (Fr n0 l24) → (c24 ≤ 2) → (z24 ≤ 158) → (Exa Z h24 a1 "com/example/hueline/hueline/model/Degrees") → (Fld Z h24 a1 "com/example/hueline/hueline/model/Degrees" "counts" "[I" (.ref xc)) → (Fld Z h24 a1 "com/example/hueline/hueline/model/Degrees" "withDegree" "[I" (.ref xw)) → (Fld Z h24 a1 "com/example/hueline/hueline/model/Degrees" "max" "I" (.int mx)) → (Arv Z h24 xc kc .int nc (own_cl (own_upd fc p1 ((fc p1) + p2))) (.int (0 : Int32))) → (Arv Z h24 xw kw .int nw (own_cl gw) (.int (0 : Int32))) → (n0 ≤ h24.size) → (n0 ≤ xc) → (n0 ≤ xw) → (xc ≠ a1) → (xw ≠ a1) → (xc ≠ xw) → (16 ≤ nc.toInt ∧ nc.toInt ≤ 126) → (nw.toInt = 16 ∨ nw.toInt = 32) → (0 ≤ mx.toInt ∧ mx.toInt < nw.toInt) → (∀ x : Int32, nc.toInt ≤ x.toInt → (own_upd fc p1 ((fc p1) + p2)) x = 0) → (∀ x : Int32, 0 ≤ ((own_upd fc p1 ((fc p1) + p2)) x).toInt ∧ ((own_upd fc p1 ((fc p1) + p2)) x).toInt < nw.toInt) → (p1.toInt < nc.toInt) → (((fc p1) + p2).toInt < nw.toInt) → (0 ≤ (fc p1).toInt ∧ (fc p1).toInt < nw.toInt) → own_Run p e below Φ (T24.setTop (mkF m 96 #[.val (.ref a1), .val (.int p1), .val (.int p2), .val (.int (fc p1)), .val (.int ((fc p1) + p2))] [])) := by
        intro xc kc nc xw kw nw gw mx T24 h24 l24 c24 z24 X24 e24 N24 hc24 hs24 F25 F26 F27 F28 F29 F30 F31 hgc hgw nca nwa ncw hN hW hmx hf0 hfb hpn han hbn
        show own_Run p e below Φ (T24.setTop (mkF m 96 #[.val (.ref a1), .val (.int p1), .val (.int p2), .val (.int (fc p1)), .val (.int ((fc p1) + p2))] []))
        have J112_32 : ∀ (xc : Addr) (kc : ClassId) (nc : Int32) (xw : Addr) (kw : ClassId) (nw : Int32) (gw : Int32 → Int32) (mx : Int32) (T33 : State) (h33 : Heap) (l33 : List Loc) (c33 z33 : Nat), (Stand p l e ({ frames := 2, cells := 2, slots := 158, locals := 33 } : Room) s m #[(.ref a1), (.int p1), (.int p2)] below meth c T33 l33 c33 z33) → (T33.heap = h33) → (Fr n0 l33) → (c33 ≤ 2) → (z33 ≤ 158) → (Exa Z h33 a1 "com/example/hueline/hueline/model/Degrees") → (Fld Z h33 a1 "com/example/hueline/hueline/model/Degrees" "counts" "[I" (.ref xc)) → (Fld Z h33 a1 "com/example/hueline/hueline/model/Degrees" "withDegree" "[I" (.ref xw)) → (Fld Z h33 a1 "com/example/hueline/hueline/model/Degrees" "max" "I" (.int mx)) → (Arv Z h33 xc kc .int nc (own_cl (own_upd fc p1 ((fc p1) + p2))) (.int (0 : Int32))) → (Arv Z h33 xw kw .int nw (own_cl gw) (.int (0 : Int32))) → (n0 ≤ h33.size) → (n0 ≤ xc) → (n0 ≤ xw) → (xc ≠ a1) → (xw ≠ a1) → (xc ≠ xw) → (16 ≤ nc.toInt ∧ nc.toInt ≤ 126) → (nw.toInt = 16 ∨ nw.toInt = 32) → (0 ≤ mx.toInt ∧ mx.toInt < nw.toInt) → (∀ x : Int32, nc.toInt ≤ x.toInt → (own_upd fc p1 ((fc p1) + p2)) x = 0) → (∀ x : Int32, 0 ≤ ((own_upd fc p1 ((fc p1) + p2)) x).toInt ∧ ((own_upd fc p1 ((fc p1) + p2)) x).toInt < nw.toInt) → (p1.toInt < nc.toInt) → (((fc p1) + p2).toInt < nw.toInt) → (0 ≤ (fc p1).toInt ∧ (fc p1).toInt < nw.toInt) → own_Run p e below Φ (T33.setTop (mkF m 112 #[.val (.ref a1), .val (.int p1), .val (.int p2), .val (.int (fc p1)), .val (.int ((fc p1) + p2))] [])) := by
          intro xc kc nc xw kw nw gw mx T33 h33 l33 c33 z33 X33 e33 N33 hc33 hs33 F34 F35 F36 F37 F38 F39 F40 hgc hgw nca nwa ncw hN hW hmx hf0 hfb hpn han hbn
          show own_Run p e below Φ (T33.setTop (mkF m 112 #[.val (.ref a1), .val (.int p1), .val (.int p2), .val (.int (fc p1)), .val (.int ((fc p1) + p2))] []))
          refine own_go (fun t k => XS.aloadN X33.here hx rfl (hb hby d4_112) rfl rfl  k) ?_
          refine own_go (fun t k => XS.aloadN X33.here hx rfl (hb hby d4_113) rfl rfl  k) ?_
          obtain ⟨T41, X41, e41, st41⟩ := getF X33 hx hZ hown (host := "") (Or.inl (hw _ (List.mem_of_getElem? (i := 23) rfl))) Via.refl e33 F37 (g := (mkF m 114 #[.val (.ref a1), .val (.int p1), .val (.int p2), .val (.int (fc p1)), .val (.int ((fc p1) + p2))] [(.ref a1), (.ref a1)])) rfl rfl (hb hby d4_114)
          refine own_go st41 ?_
          refine own_go (fun t k => XS.iload X41.here hx rfl (hb hby d4_117) rfl  k) ?_
          refine own_callS X41 hx hZ (y := (⟨"java/lang/Math", "max", "(II)I"⟩ : MethodName)) (W := 1) (argsL := [(.int mx), (.int ((fc p1) + p2))]) (rest := [(.ref a1)]) hown (hw _ (List.mem_of_getElem? (i := 25) rfl)) (hw _ (List.mem_of_getElem? (i := 26) rfl)) (hw _ (List.mem_of_getElem? (i := 16) rfl)) (hw _ (List.mem_of_getElem? (i := 27) rfl)) (by decide) (own_bk (rm_mxi l Z a0 hw mx ((fc p1) + p2) h33 n0 ) hZ (hw _ (List.mem_of_getElem? (i := 27) rfl)) (hw _ (List.mem_of_getElem? (i := 16) rfl)) (by decide) (by decide)) e41 (g := (mkF m 119 #[.val (.ref a1), .val (.int p1), .val (.int p2), .val (.int (fc p1)), .val (.int ((fc p1) + p2))] [(.int ((fc p1) + p2)), (.int mx), (.ref a1)])) rfl (by rw [hml]; rfl) (lenOf pd_1 rfl) rfl (by show 2 * 0 + _ ≤ _; exact Nat.le_of_eq rfl) (hb hby d4_119) (own_le hc33 (by decide)) (own_le hs33 (by decide)) (fun v42 T42 h42 L42 X42 e42 q42 => ?_)
          obtain ⟨rfl, M42, s42⟩ := q42
          replace e42 : T42.heap = h33 := e42.trans s42
          have N42 := Fr.app N33 M42
          show own_Run p e below Φ (T42.setTop (mkF m 122 #[.val (.ref a1), .val (.int p1), .val (.int p2), .val (.int (fc p1)), .val (.int ((fc p1) + p2))] [(.int (own_maxi mx ((fc p1) + p2))), (.ref a1)]))
          obtain ⟨T43, h43, X43, e43, W43, st43⟩ := putF X42 hx hZ hown (host := "") (Or.inl (hw _ (List.mem_of_getElem? (i := 23) rfl))) Via.refl e42 F37 F34 (Or.inl (hw _ (List.mem_of_getElem? (i := 24) rfl))) (hw _ (List.mem_of_getElem? (i := 1) rfl)) (ty := .int) (by decide) rfl rfl (g := (mkF m 122 #[.val (.ref a1), .val (.int p1), .val (.int p2), .val (.int (fc p1)), .val (.int ((fc p1) + p2))] [(.int (own_maxi mx ((fc p1) + p2))), (.ref a1)])) rfl rfl (hb hby d4_122)
          refine own_go st43 ?_
          have G43 : Fld Z h43 a1 "com/example/hueline/hueline/model/Degrees" "max" "I" (.int (own_maxi mx ((fc p1) + p2))) := F37.same W43
          have N43 := Fr.snoc X43 N42 hga
          show own_Run p e below Φ (T43.setTop (mkF m 125 #[.val (.ref a1), .val (.int p1), .val (.int p2), .val (.int (fc p1)), .val (.int ((fc p1) + p2))] []))
          have hm2 := own_mx nw.toInt hmx ⟨hd.1, han⟩
          have J125_44 : ∀ (m_ : Nat), ∀ (xc : Addr) (kc : ClassId) (nc : Int32) (xw : Addr) (kw : ClassId) (nw : Int32) (gw : Int32 → Int32) (mx : Int32) (T45 : State) (h45 : Heap) (l45 : List Loc) (c45 z45 : Nat), (Stand p l e ({ frames := 2, cells := 2, slots := 158, locals := 33 } : Room) s m #[(.ref a1), (.int p1), (.int p2)] below meth c T45 l45 c45 z45) → (T45.heap = h45) → (Fr n0 l45) → (c45 ≤ 2) → (z45 ≤ 158) → (Exa Z h45 a1 "com/example/hueline/hueline/model/Degrees") → (Fld Z h45 a1 "com/example/hueline/hueline/model/Degrees" "counts" "[I" (.ref xc)) → (Fld Z h45 a1 "com/example/hueline/hueline/model/Degrees" "withDegree" "[I" (.ref xw)) → (Fld Z h45 a1 "com/example/hueline/hueline/model/Degrees" "max" "I" (.int mx)) → (Arv Z h45 xc kc .int nc (own_cl (own_upd fc p1 ((fc p1) + p2))) (.int (0 : Int32))) → (Arv Z h45 xw kw .int nw (own_cl gw) (.int (0 : Int32))) → (n0 ≤ h45.size) → (n0 ≤ xc) → (n0 ≤ xw) → (xc ≠ a1) → (xw ≠ a1) → (xc ≠ xw) → (16 ≤ nc.toInt ∧ nc.toInt ≤ 126) → (nw.toInt = 16 ∨ nw.toInt = 32) → (0 ≤ mx.toInt ∧ mx.toInt < nw.toInt) → (∀ x : Int32, nc.toInt ≤ x.toInt → (own_upd fc p1 ((fc p1) + p2)) x = 0) → (∀ x : Int32, 0 ≤ ((own_upd fc p1 ((fc p1) + p2)) x).toInt ∧ ((own_upd fc p1 ((fc p1) + p2)) x).toInt < nw.toInt) → (p1.toInt < nc.toInt) → (((fc p1) + p2).toInt < nw.toInt) → (0 ≤ (fc p1).toInt ∧ (fc p1).toInt < nw.toInt) → (mx.toInt = (m_ : Int)) → own_Run p e below Φ (T45.setTop (mkF m 125 #[.val (.ref a1), .val (.int p1), .val (.int p2), .val (.int (fc p1)), .val (.int ((fc p1) + p2))] [])) := by
            intro m_
            induction m_ with
            | zero =>
              intro xc kc nc xw kw nw gw mx T45 h45 l45 c45 z45 X45 e45 N45 hc45 hs45 F46 F47 F48 F49 F50 F51 F52 hgc hgw nca nwa ncw hN hW hmx hf0 hfb hpn han hbn hmm
              show own_Run p e below Φ (T45.setTop (mkF m 125 #[.val (.ref a1), .val (.int p1), .val (.int p2), .val (.int (fc p1)), .val (.int ((fc p1) + p2))] []))
              refine own_go (fun t k => XS.aloadN X45.here hx rfl (hb hby d4_125) rfl rfl  k) ?_
              obtain ⟨T53, X53, e53, st53⟩ := getF X45 hx hZ hown (host := "") (Or.inl (hw _ (List.mem_of_getElem? (i := 23) rfl))) Via.refl e45 F49 (g := (mkF m 126 #[.val (.ref a1), .val (.int p1), .val (.int p2), .val (.int (fc p1)), .val (.int ((fc p1) + p2))] [(.ref a1)])) rfl rfl (hb hby d4_126)
              refine own_go st53 ?_
              have hc129 : ¬ ((0 : Int32) < mx) := (by rw [Int32.lt_iff_toInt_lt, hmm]; decide)
              refine own_go (fun t k => XS.ifYes X53.here hx rfl (pc0 := 129) (pc' := 157) rfl (hb hby d4_129) rfl ((if0 _ _).trans (flt hc129).2.2.2) (by decide) (by decide) k) ?_
              refine own_go (fun t k => XS.iload X53.here hx rfl (hb hby d4_157) rfl  k) ?_
              subst hΦ
              exact own_retI X53 hx Bd.returns hlk (hb hby d4_159) e53 ⟨rfl, N45, trivial, F46, F52, ⟨xc, _, nc, xw, _, nw, _, mx, hga, hgc, hgw, nca, nwa, ncw, hN, hW, hmx, hf0, hfb, F46, F47, F48, F49, F50, F51⟩⟩ (Nat.le_trans hc45 (by decide)) (Nat.le_trans hs45 (by decide))
            | succ m_ ih125 =>
              intro xc kc nc xw kw nw gw mx T45 h45 l45 c45 z45 X45 e45 N45 hc45 hs45 F46 F47 F48 F49 F50 F51 F52 hgc hgw nca nwa ncw hN hW hmx hf0 hfb hpn han hbn hmm
              show own_Run p e below Φ (T45.setTop (mkF m 125 #[.val (.ref a1), .val (.int p1), .val (.int p2), .val (.int (fc p1)), .val (.int ((fc p1) + p2))] []))
              refine own_go (fun t k => XS.aloadN X45.here hx rfl (hb hby d4_125) rfl rfl  k) ?_
              obtain ⟨T54, X54, e54, st54⟩ := getF X45 hx hZ hown (host := "") (Or.inl (hw _ (List.mem_of_getElem? (i := 23) rfl))) Via.refl e45 F49 (g := (mkF m 126 #[.val (.ref a1), .val (.int p1), .val (.int p2), .val (.int (fc p1)), .val (.int ((fc p1) + p2))] [(.ref a1)])) rfl rfl (hb hby d4_126)
              refine own_go st54 ?_
              have hc129 : (0 : Int32) < mx := (by rw [Int32.lt_iff_toInt_lt, hmm]; simp only [Int32.reduceToInt]; omega)
              refine own_go (fun t k => XS.ifNo X54.here hx rfl (hb hby d4_129) rfl ((if0 _ _).trans (tlt hc129).2.2.2) k) ?_
              refine own_go (fun t k => XS.aloadN X54.here hx rfl (hb hby d4_132) rfl rfl  k) ?_
              obtain ⟨T55, X55, e55, st55⟩ := getF X54 hx hZ hown (host := "") (Or.inl (hw _ (List.mem_of_getElem? (i := 12) rfl))) Via.refl e54 F48 (g := (mkF m 133 #[.val (.ref a1), .val (.int p1), .val (.int p2), .val (.int (fc p1)), .val (.int ((fc p1) + p2))] [(.ref a1)])) rfl rfl (hb hby d4_133)
              refine own_go st55 ?_
              show own_Run p e below Φ (T55.setTop (mkF m 136 #[.val (.ref a1), .val (.int p1), .val (.int p2), .val (.int (fc p1)), .val (.int ((fc p1) + p2))] [(.ref xw)]))
              refine own_go (fun t k => XS.aloadN X55.here hx rfl (hb hby d4_136) rfl rfl  k) ?_
              obtain ⟨T56, X56, e56, st56⟩ := getF X55 hx hZ hown (host := "") (Or.inl (hw _ (List.mem_of_getElem? (i := 23) rfl))) Via.refl e55 F49 (g := (mkF m 137 #[.val (.ref a1), .val (.int p1), .val (.int p2), .val (.int (fc p1)), .val (.int ((fc p1) + p2))] [(.ref a1), (.ref xw)])) rfl rfl (hb hby d4_137)
              refine own_go st56 ?_
              refine own_iaload X56 hx hZ e56 F51 (j := mx) (v := (.int (gw mx))) (own_inb hmx) (own_cl_g ⟨hmx.1, by omega⟩) (g := (mkF m 140 #[.val (.ref a1), .val (.int p1), .val (.int p2), .val (.int (fc p1)), .val (.int ((fc p1) + p2))] [(.int mx), (.ref xw)])) rfl rfl (hb hby d4_140) ?_
              by_cases hc141 : (gw mx) = (0 : Int32)
              · refine own_go (fun t k => XS.ifNo X56.here hx rfl (hb hby d4_141) rfl ((if0 _ _).trans (teq hc141).2) k) ?_
                refine own_go (fun t k => XS.aloadN X56.here hx rfl (hb hby d4_144) rfl rfl  k) ?_
                show own_Run p e below Φ (T56.setTop (mkF m 145 #[.val (.ref a1), .val (.int p1), .val (.int p2), .val (.int (fc p1)), .val (.int ((fc p1) + p2))] [(.ref a1)]))
                refine own_go (fun t k => XS.dup X56.here hx rfl (hb hby d4_145) rfl rfl k) ?_
                obtain ⟨T57, X57, e57, st57⟩ := getF X56 hx hZ hown (host := "") (Or.inl (hw _ (List.mem_of_getElem? (i := 23) rfl))) Via.refl e56 F49 (g := (mkF m 146 #[.val (.ref a1), .val (.int p1), .val (.int p2), .val (.int (fc p1)), .val (.int ((fc p1) + p2))] [(.ref a1), (.ref a1)])) rfl rfl (hb hby d4_146)
                refine own_go st57 ?_
                refine own_go (fun t k => XS.iconst X57.here hx rfl (hb hby d4_149) k) ?_
                refine own_go (fun t k => XS.isub X57.here hx rfl (hb hby d4_150) rfl k) ?_
                obtain ⟨T58, h58, X58, e58, W58, st58⟩ := putF X57 hx hZ hown (host := "") (Or.inl (hw _ (List.mem_of_getElem? (i := 23) rfl))) Via.refl e57 F49 F46 (Or.inl (hw _ (List.mem_of_getElem? (i := 24) rfl))) (hw _ (List.mem_of_getElem? (i := 1) rfl)) (ty := .int) (by decide) rfl rfl (g := (mkF m 151 #[.val (.ref a1), .val (.int p1), .val (.int p2), .val (.int (fc p1)), .val (.int ((fc p1) + p2))] [(.int (mx - (1 : Int32))), (.ref a1)])) rfl rfl (hb hby d4_151)
                refine own_go st58 ?_
                have G58 : Fld Z h58 a1 "com/example/hueline/hueline/model/Degrees" "max" "I" (.int (mx - (1 : Int32))) := F49.same W58
                have N58 := Fr.snoc X58 N45 hga
                show own_Run p e below Φ (T58.setTop (mkF m 154 #[.val (.ref a1), .val (.int p1), .val (.int p2), .val (.int (fc p1)), .val (.int ((fc p1) + p2))] []))
                have hmy : 0 ≤ (mx - (1 : Int32)).toInt ∧ (mx - (1 : Int32)).toInt < nw.toInt := by have w1 := c_isub mx 1; have w2 := rng32 (mx - 1); simp only [Int32.reduceToInt] at w1; omega
                have hmz : (mx - (1 : Int32)).toInt = mx.toInt - 1 := by have w1 := c_isub mx 1; have w2 := rng32 (mx - 1); simp only [Int32.reduceToInt] at w1; omega
                show own_Run p e below Φ (T58.setTop (mkF m 154 #[.val (.ref a1), .val (.int p1), .val (.int p2), .val (.int (fc p1)), .val (.int ((fc p1) + p2))] []))
                refine own_go (fun t k => XS.goto X58.here hx rfl (pc0 := 154) (pc' := 125) rfl (hb hby d4_154) (by decide) (by decide) k) ?_
                have F59 : Exa Z h58 a1 "com/example/hueline/hueline/model/Degrees" := (F46.wr W58)
                have F60 : Fld Z h58 a1 "com/example/hueline/hueline/model/Degrees" "counts" "[I" (.ref xc) := (F47.other W58 (Or.inr (slot_ne (Or.inl (hw _ (List.mem_of_getElem? (i := 11) rfl))) (Or.inl (hw _ (List.mem_of_getElem? (i := 24) rfl))) (by decide) (t := (.array .int)) (t' := .int) (by decide) (by decide))))
                have F61 : Fld Z h58 a1 "com/example/hueline/hueline/model/Degrees" "withDegree" "[I" (.ref xw) := (F48.other W58 (Or.inr (slot_ne (Or.inl (hw _ (List.mem_of_getElem? (i := 13) rfl))) (Or.inl (hw _ (List.mem_of_getElem? (i := 24) rfl))) (by decide) (t := (.array .int)) (t' := .int) (by decide) (by decide))))
                have F62 : Arv Z h58 xc kc .int nc (own_cl (own_upd fc p1 ((fc p1) + p2))) (.int (0 : Int32)) := (F50.other W58 nca)
                have F63 : Arv Z h58 xw kw .int nw (own_cl gw) (.int (0 : Int32)) := (F51.other W58 nwa)
                have F64 : n0 ≤ h58.size := (Nat.le_trans F52 (Keep.of_wr W58).1)
                exact ih125 xc kc nc xw kw nw gw (mx - (1 : Int32)) T58 h58 _ _ _ X58 e58 N58 hc45 hs45 F59 F60 F61 G58 F62 F63 F64 hgc hgw nca nwa ncw hN hW hmy hf0 hfb hpn han hbn (by omega)
              · refine own_go (fun t k => XS.ifYes X56.here hx rfl (pc0 := 141) (pc' := 157) rfl (hb hby d4_141) rfl ((if0 _ _).trans (feq hc141).2) (by decide) (by decide) k) ?_
                refine own_go (fun t k => XS.iload X56.here hx rfl (hb hby d4_157) rfl  k) ?_
                subst hΦ
                exact own_retI X56 hx Bd.returns hlk (hb hby d4_159) e56 ⟨rfl, N45, trivial, F46, F52, ⟨xc, _, nc, xw, _, nw, _, mx, hga, hgc, hgw, nca, nwa, ncw, hN, hW, hmx, hf0, hfb, F46, F47, F48, F49, F50, F51⟩⟩ (Nat.le_trans hc45 (by decide)) (Nat.le_trans hs45 (by decide))
          have F65 : Exa Z h43 a1 "com/example/hueline/hueline/model/Degrees" := (F34.wr W43)
          have F66 : Fld Z h43 a1 "com/example/hueline/hueline/model/Degrees" "counts" "[I" (.ref xc) := (F35.other W43 (Or.inr (slot_ne (Or.inl (hw _ (List.mem_of_getElem? (i := 11) rfl))) (Or.inl (hw _ (List.mem_of_getElem? (i := 24) rfl))) (by decide) (t := (.array .int)) (t' := .int) (by decide) (by decide))))
          have F67 : Fld Z h43 a1 "com/example/hueline/hueline/model/Degrees" "withDegree" "[I" (.ref xw) := (F36.other W43 (Or.inr (slot_ne (Or.inl (hw _ (List.mem_of_getElem? (i := 13) rfl))) (Or.inl (hw _ (List.mem_of_getElem? (i := 24) rfl))) (by decide) (t := (.array .int)) (t' := .int) (by decide) (by decide))))
          have F68 : Arv Z h43 xc kc .int nc (own_cl (own_upd fc p1 ((fc p1) + p2))) (.int (0 : Int32)) := (F38.other W43 nca)
          have F69 : Arv Z h43 xw kw .int nw (own_cl gw) (.int (0 : Int32)) := (F39.other W43 nwa)
          have F70 : n0 ≤ h43.size := (Nat.le_trans F40 (Keep.of_wr W43).1)
          exact J125_44 (own_maxi mx ((fc p1) + p2)).toInt.toNat xc kc nc xw kw nw gw (own_maxi mx ((fc p1) + p2)) T43 h43 _ _ _ X43 e43 N43 (Nat.add_le_add_right hc33 0) (Nat.add_le_add_right hs33 0) F65 F66 F67 G43 F68 F69 F70 hgc hgw nca nwa ncw hN hW hm2 hf0 hfb hpn han hbn (by omega)
        show own_Run p e below Φ (T24.setTop (mkF m 96 #[.val (.ref a1), .val (.int p1), .val (.int p2), .val (.int (fc p1)), .val (.int ((fc p1) + p2))] []))
        refine own_go (fun t k => XS.iload X24.here hx rfl (hb hby d4_96) rfl  k) ?_
        by_cases hc98 : (0 : Int32) < ((fc p1) + p2)
        · refine own_go (fun t k => XS.ifNo X24.here hx rfl (hb hby d4_98) rfl ((if0 _ _).trans (tlt hc98).2.2.2) k) ?_
          refine own_go (fun t k => XS.aloadN X24.here hx rfl (hb hby d4_101) rfl rfl  k) ?_
          show own_Run p e below Φ (T24.setTop (mkF m 102 #[.val (.ref a1), .val (.int p1), .val (.int p2), .val (.int (fc p1)), .val (.int ((fc p1) + p2))] [(.ref a1)]))
          obtain ⟨T71, X71, e71, st71⟩ := getF X24 hx hZ hown (host := "") (Or.inl (hw _ (List.mem_of_getElem? (i := 12) rfl))) Via.refl e24 F27 (g := (mkF m 102 #[.val (.ref a1), .val (.int p1), .val (.int p2), .val (.int (fc p1)), .val (.int ((fc p1) + p2))] [(.ref a1)])) rfl rfl (hb hby d4_102)
          refine own_go st71 ?_
          refine own_go (fun t k => XS.iload X71.here hx rfl (hb hby d4_105) rfl  k) ?_
          refine own_go (fun t k => (by intro q; jvm_step X71.here [X71.here.top, hx, (hb hby d4_107), Value.category]; exact q : Steps p.tables e below (T71.setTop (mkF m 108 #[.val (.ref a1), .val (.int p1), .val (.int p2), .val (.int (fc p1)), .val (.int ((fc p1) + p2))] [(.int ((fc p1) + p2)), (.ref xw), (.int ((fc p1) + p2)), (.ref xw)])) t → Steps p.tables e below (T71.setTop (mkF m 107 #[.val (.ref a1), .val (.int p1), .val (.int p2), .val (.int (fc p1)), .val (.int ((fc p1) + p2))] [(.int ((fc p1) + p2)), (.ref xw)])) t) k) ?_
          refine own_iaload X71 hx hZ e71 F30 (j := ((fc p1) + p2)) (v := (.int (gw ((fc p1) + p2)))) (own_inb ⟨hd.1, han⟩) (own_cl_g ⟨hd.1, by omega⟩) (g := (mkF m 108 #[.val (.ref a1), .val (.int p1), .val (.int p2), .val (.int (fc p1)), .val (.int ((fc p1) + p2))] [(.int ((fc p1) + p2)), (.ref xw), (.int ((fc p1) + p2)), (.ref xw)])) rfl rfl (hb hby d4_108) ?_
          refine own_go (fun t k => XS.iconst X71.here hx rfl (hb hby d4_109) k) ?_
          show own_Run p e below Φ (T71.setTop (mkF m 110 #[.val (.ref a1), .val (.int p1), .val (.int p2), .val (.int (fc p1)), .val (.int ((fc p1) + p2))] [(.int (1 : Int32)), (.int (gw ((fc p1) + p2))), (.int ((fc p1) + p2)), (.ref xw)]))
          refine own_go (fun t k => XS.iadd X71.here hx rfl (hb hby d4_110) rfl k) ?_
          refine own_iastore X71 hx hZ e71 F30 (j := ((fc p1) + p2)) (own_inb ⟨by omega, by omega⟩) (((fc p1) + p2)).toNatClampNeg rfl (own_cl_l (p := ((fc p1) + p2)) ⟨by omega, by omega⟩) (g := (mkF m 111 #[.val (.ref a1), .val (.int p1), .val (.int p2), .val (.int (fc p1)), .val (.int ((fc p1) + p2))] [(.int ((gw ((fc p1) + p2)) + (1 : Int32))), (.int ((fc p1) + p2)), (.ref xw)])) rfl rfl (hb hby d4_111) (fun T72 h72 X72 e72 W72 V72 => ?_)
          replace V72 : Arv Z h72 xw kw .int nw (own_cl (own_upd gw ((fc p1) + p2) ((gw ((fc p1) + p2)) + (1 : Int32)))) (.int (0 : Int32)) := (by rw [← own_cl_s (f := gw) (p := ((fc p1) + p2)) ((gw ((fc p1) + p2)) + (1 : Int32)) ⟨by omega, by omega⟩]; exact V72)
          have N72 := Fr.snoc X72 N24 hgw
          have F73 : Exa Z h72 a1 "com/example/hueline/hueline/model/Degrees" := (F25.wr W72)
          have F74 : Fld Z h72 a1 "com/example/hueline/hueline/model/Degrees" "counts" "[I" (.ref xc) := (F26.other W72 (Or.inl (Ne.symm nwa)))
          have F75 : Fld Z h72 a1 "com/example/hueline/hueline/model/Degrees" "withDegree" "[I" (.ref xw) := (F27.other W72 (Or.inl (Ne.symm nwa)))
          have F76 : Fld Z h72 a1 "com/example/hueline/hueline/model/Degrees" "max" "I" (.int mx) := (F28.other W72 (Or.inl (Ne.symm nwa)))
          have F77 : Arv Z h72 xc kc .int nc (own_cl (own_upd fc p1 ((fc p1) + p2))) (.int (0 : Int32)) := (F29.other W72 ncw)
          have F78 : n0 ≤ h72.size := (Nat.le_trans F31 (Keep.of_wr W72).1)
          exact J112_32 xc kc nc xw kw nw (own_upd gw ((fc p1) + p2) ((gw ((fc p1) + p2)) + (1 : Int32))) mx T72 h72 _ _ _ X72 e72 N72 hc24 hs24 F73 F74 F75 F76 F77 V72 F78 hgc hgw nca nwa ncw hN hW hmx hf0 hfb hpn han hbn
        · refine own_go (fun t k => XS.ifYes X24.here hx rfl (pc0 := 98) (pc' := 112) rfl (hb hby d4_98) rfl ((if0 _ _).trans (flt hc98).2.2.2) (by decide) (by decide) k) ?_
          exact J112_32 xc kc nc xw kw nw gw mx T24 h24 _ _ _ X24 e24 N24 hc24 hs24 F25 F26 F27 F28 F29 F30 F31 hgc hgw nca nwa ncw hN hW hmx hf0 hfb hpn han hbn
      show own_Run p e below Φ (T22.setTop (mkF m 82 #[.val (.ref a1), .val (.int p1), .val (.int p2), .val (.int (fc p1)), .val (.int ((fc p1) + p2))] []))
      refine own_go (fun t k => XS.iloadN X22.here hx rfl (hb hby d4_82) rfl  k) ?_
      by_cases hc83 : (0 : Int32) < (fc p1)
      · refine own_go (fun t k => XS.ifNo X22.here hx rfl (hb hby d4_83) rfl ((if0 _ _).trans (tlt hc83).2.2.2) k) ?_
        refine own_go (fun t k => XS.aloadN X22.here hx rfl (hb hby d4_86) rfl rfl  k) ?_
        have F79 : Fld Z h22 a1 "com/example/hueline/hueline/model/Degrees" "withDegree" "[I" (.ref xw) := (F16.other W22 (Or.inl (Ne.symm nca)))
        obtain ⟨T80, X80, e80, st80⟩ := getF X22 hx hZ hown (host := "") (Or.inl (hw _ (List.mem_of_getElem? (i := 12) rfl))) Via.refl e22 F79 (g := (mkF m 87 #[.val (.ref a1), .val (.int p1), .val (.int p2), .val (.int (fc p1)), .val (.int ((fc p1) + p2))] [(.ref a1)])) rfl rfl (hb hby d4_87)
        refine own_go st80 ?_
        show own_Run p e below Φ (T80.setTop (mkF m 90 #[.val (.ref a1), .val (.int p1), .val (.int p2), .val (.int (fc p1)), .val (.int ((fc p1) + p2))] [(.ref xw)]))
        refine own_go (fun t k => XS.iloadN X80.here hx rfl (hb hby d4_90) rfl  k) ?_
        refine own_go (fun t k => (by intro q; jvm_step X80.here [X80.here.top, hx, (hb hby d4_91), Value.category]; exact q : Steps p.tables e below (T80.setTop (mkF m 92 #[.val (.ref a1), .val (.int p1), .val (.int p2), .val (.int (fc p1)), .val (.int ((fc p1) + p2))] [(.int (fc p1)), (.ref xw), (.int (fc p1)), (.ref xw)])) t → Steps p.tables e below (T80.setTop (mkF m 91 #[.val (.ref a1), .val (.int p1), .val (.int p2), .val (.int (fc p1)), .val (.int ((fc p1) + p2))] [(.int (fc p1)), (.ref xw)])) t) k) ?_
        have F81 : Arv Z h22 xw kw .int nw (own_cl gw) (.int (0 : Int32)) := (F19.other W22 (Ne.symm ncw))
        refine own_iaload X80 hx hZ e80 F81 (j := (fc p1)) (v := (.int (gw (fc p1)))) (own_inb hbn) (own_cl_g ⟨hbn.1, by omega⟩) (g := (mkF m 92 #[.val (.ref a1), .val (.int p1), .val (.int p2), .val (.int (fc p1)), .val (.int ((fc p1) + p2))] [(.int (fc p1)), (.ref xw), (.int (fc p1)), (.ref xw)])) rfl rfl (hb hby d4_92) ?_
        refine own_go (fun t k => XS.iconst X80.here hx rfl (hb hby d4_93) k) ?_
        refine own_go (fun t k => XS.isub X80.here hx rfl (hb hby d4_94) rfl k) ?_
        show own_Run p e below Φ (T80.setTop (mkF m 95 #[.val (.ref a1), .val (.int p1), .val (.int p2), .val (.int (fc p1)), .val (.int ((fc p1) + p2))] [(.int ((gw (fc p1)) - (1 : Int32))), (.int (fc p1)), (.ref xw)]))
        refine own_iastore X80 hx hZ e80 F81 (j := (fc p1)) (own_inb ⟨by omega, by omega⟩) ((fc p1)).toNatClampNeg rfl (own_cl_l (p := (fc p1)) ⟨by omega, by omega⟩) (g := (mkF m 95 #[.val (.ref a1), .val (.int p1), .val (.int p2), .val (.int (fc p1)), .val (.int ((fc p1) + p2))] [(.int ((gw (fc p1)) - (1 : Int32))), (.int (fc p1)), (.ref xw)])) rfl rfl (hb hby d4_95) (fun T82 h82 X82 e82 W82 V82 => ?_)
        replace V82 : Arv Z h82 xw kw .int nw (own_cl (own_upd gw (fc p1) ((gw (fc p1)) - (1 : Int32)))) (.int (0 : Int32)) := (by rw [← own_cl_s (f := gw) (p := (fc p1)) ((gw (fc p1)) - (1 : Int32)) ⟨by omega, by omega⟩]; exact V82)
        have N82 := Fr.snoc X82 N22 hgw
        have F83 : Exa Z h82 a1 "com/example/hueline/hueline/model/Degrees" := ((F14.wr W22).wr W82)
        have F84 : Fld Z h82 a1 "com/example/hueline/hueline/model/Degrees" "counts" "[I" (.ref xc) := ((F15.other W22 (Or.inl (Ne.symm nca))).other W82 (Or.inl (Ne.symm nwa)))
        have F85 : Fld Z h82 a1 "com/example/hueline/hueline/model/Degrees" "withDegree" "[I" (.ref xw) := (F79.other W82 (Or.inl (Ne.symm nwa)))
        have F86 : Fld Z h82 a1 "com/example/hueline/hueline/model/Degrees" "max" "I" (.int mx) := ((F17.other W22 (Or.inl (Ne.symm nca))).other W82 (Or.inl (Ne.symm nwa)))
        have F87 : Arv Z h82 xc kc .int nc (own_cl (own_upd fc p1 ((fc p1) + p2))) (.int (0 : Int32)) := (V22.other W82 ncw)
        have F88 : n0 ≤ h82.size := (Nat.le_trans (Nat.le_trans F20 (Keep.of_wr W22).1) (Keep.of_wr W82).1)
        exact J96_23 xc kc nc xw kw nw (own_upd gw (fc p1) ((gw (fc p1)) - (1 : Int32))) mx T82 h82 _ _ _ X82 e82 N82 hc13 hs13 F83 F84 F85 F86 F87 V82 F88 hgc hgw nca nwa ncw hN hW hmx hf2 hb2 hpn han hbn
      · refine own_go (fun t k => XS.ifYes X22.here hx rfl (pc0 := 83) (pc' := 96) rfl (hb hby d4_83) rfl ((if0 _ _).trans (flt hc83).2.2.2) (by decide) (by decide) k) ?_
        have F89 : Exa Z h22 a1 "com/example/hueline/hueline/model/Degrees" := (F14.wr W22)
        have F90 : Fld Z h22 a1 "com/example/hueline/hueline/model/Degrees" "counts" "[I" (.ref xc) := (F15.other W22 (Or.inl (Ne.symm nca)))
        have F91 : Fld Z h22 a1 "com/example/hueline/hueline/model/Degrees" "withDegree" "[I" (.ref xw) := (F16.other W22 (Or.inl (Ne.symm nca)))
        have F92 : Fld Z h22 a1 "com/example/hueline/hueline/model/Degrees" "max" "I" (.int mx) := (F17.other W22 (Or.inl (Ne.symm nca)))
        have F93 : Arv Z h22 xw kw .int nw (own_cl gw) (.int (0 : Int32)) := (F19.other W22 (Ne.symm ncw))
        have F94 : n0 ≤ h22.size := (Nat.le_trans F20 (Keep.of_wr W22).1)
        exact J96_23 xc kc nc xw kw nw gw mx T22 h22 _ _ _ X22 e22 N22 hc13 hs13 F89 F90 F91 F92 V22 F93 F94 hgc hgw nca nwa ncw hN hW hmx hf2 hb2 hpn han hbn
    show own_Run p e below Φ (T11.setTop (mkF m 42 #[.val (.ref a1), .val (.int p1), .val (.int p2), .val (.int (fc p1)), .val (.int ((fc p1) + p2))] []))
    refine own_go (fun t k => XS.iload X11.here hx rfl (hb hby d4_42) rfl  k) ?_
    refine own_go (fun t k => XS.aloadN X11.here hx rfl (hb hby d4_44) rfl rfl  k) ?_
    obtain ⟨T95, X95, e95, st95⟩ := getF X11 hx hZ hown (host := "") (Or.inl (hw _ (List.mem_of_getElem? (i := 12) rfl))) Via.refl e11 F6 (g := (mkF m 45 #[.val (.ref a1), .val (.int p1), .val (.int p2), .val (.int (fc p1)), .val (.int ((fc p1) + p2))] [(.ref a1), (.int ((fc p1) + p2))])) rfl rfl (hb hby d4_45)
    refine own_go st95 ?_
    refine own_arrlen X95 hx hZ e95 F9 (g := (mkF m 48 #[.val (.ref a1), .val (.int p1), .val (.int p2), .val (.int (fc p1)), .val (.int ((fc p1) + p2))] [(.ref xw), (.int ((fc p1) + p2))])) rfl rfl (hb hby d4_48) ?_
    by_cases hc49 : ((fc p1) + p2) < nw
    · refine own_go (fun t k => XS.icmpYes X95.here hx rfl (pc0 := 49) (pc' := 74) rfl (hb hby d4_49) rfl (tlt hc49).1 (by decide) (by decide) k) ?_
      exact J74_12 xc kc nc xw kw nw gw mx T95 h3 _ _ _ X95 e95 N3 (Nat.le_trans hc3 (by decide)) (Nat.le_trans hs3 (by decide)) F4 F5 F6 F7 F8 F9 F10 hgc hgw nca nwa ncw hN hW hmx hf0 hfb hpn (by rw [Int32.lt_iff_toInt_lt] at hc49; exact hc49)
    · refine own_go (fun t k => XS.icmpNo X95.here hx rfl (hb hby d4_49) rfl (flt hc49).1 k) ?_
      show own_Run p e below Φ (T95.setTop (mkF m 52 #[.val (.ref a1), .val (.int p1), .val (.int p2), .val (.int (fc p1)), .val (.int ((fc p1) + p2))] []))
      refine own_go (fun t k => XS.aloadN X95.here hx rfl (hb hby d4_52) rfl rfl  k) ?_
      refine own_go (fun t k => XS.aloadN X95.here hx rfl (hb hby d4_53) rfl rfl  k) ?_
      obtain ⟨T96, X96, e96, st96⟩ := getF X95 hx hZ hown (host := "") (Or.inl (hw _ (List.mem_of_getElem? (i := 12) rfl))) Via.refl e95 F6 (g := (mkF m 54 #[.val (.ref a1), .val (.int p1), .val (.int p2), .val (.int (fc p1)), .val (.int ((fc p1) + p2))] [(.ref a1), (.ref a1)])) rfl rfl (hb hby d4_54)
      refine own_go st96 ?_
      refine own_go (fun t k => XS.aloadN X96.here hx rfl (hb hby d4_57) rfl rfl  k) ?_
      obtain ⟨T97, X97, e97, st97⟩ := getF X96 hx hZ hown (host := "") (Or.inl (hw _ (List.mem_of_getElem? (i := 12) rfl))) Via.refl e96 F6 (g := (mkF m 58 #[.val (.ref a1), .val (.int p1), .val (.int p2), .val (.int (fc p1)), .val (.int ((fc p1) + p2))] [(.ref a1), (.ref xw), (.ref a1)])) rfl rfl (hb hby d4_58)
      refine own_go st97 ?_
      show own_Run p e below Φ (T97.setTop (mkF m 61 #[.val (.ref a1), .val (.int p1), .val (.int p2), .val (.int (fc p1)), .val (.int ((fc p1) + p2))] [(.ref xw), (.ref xw), (.ref a1)]))
      refine own_arrlen X97 hx hZ e97 F9 (g := (mkF m 61 #[.val (.ref a1), .val (.int p1), .val (.int p2), .val (.int (fc p1)), .val (.int ((fc p1) + p2))] [(.ref xw), (.ref xw), (.ref a1)])) rfl rfl (hb hby d4_61) ?_
      refine own_go (fun t k => XS.iload X97.here hx rfl (hb hby d4_62) rfl  k) ?_
      refine own_go (fun t k => XS.i2l X97.here hx rfl (hb hby d4_64) rfl k) ?_
      refine own_callS X97 hx hZ (y := (⟨"com/example/hueline/hueline/model/BigArrays", "grownLength", "(IJ)I"⟩ : MethodName)) (W := 2) (argsL := [(.int nw), (.long (((fc p1) + p2).toInt64))]) (rest := [(.ref xw), (.ref a1)]) hown (hw _ (List.mem_of_getElem? (i := 33) rfl)) (hw _ (List.mem_of_getElem? (i := 34) rfl)) (hw _ (List.mem_of_getElem? (i := 35) rfl)) (hw _ (List.mem_of_getElem? (i := 36) rfl)) (by decide) (own_bk (rm_gl l Z a0 hw nw (((fc p1) + p2).toInt64) h3 n0 (by rw [c_i2l]; omega)) hZ (hw _ (List.mem_of_getElem? (i := 36) rfl)) (hw _ (List.mem_of_getElem? (i := 35) rfl)) (by decide) (by decide)) e97 (g := (mkF m 65 #[.val (.ref a1), .val (.int p1), .val (.int p2), .val (.int (fc p1)), .val (.int ((fc p1) + p2))] [(.long (((fc p1) + p2).toInt64)), (.int nw), (.ref xw), (.ref a1)])) rfl (by rw [hml]; rfl) (lenOf pd_3 rfl) rfl (by show 2 * 0 + _ ≤ _; exact Nat.le_of_eq rfl) (hb hby d4_65) (own_le hc3 (by decide)) (own_le hs3 (by decide)) (fun v98 T98 h98 L98 X98 e98 q98 => ?_)
      obtain ⟨rfl, M98, s98⟩ := q98
      replace e98 : T98.heap = h3 := e98.trans s98
      have N98 := Fr.app N3 M98
      show own_Run p e below Φ (T98.setTop (mkF m 68 #[.val (.ref a1), .val (.int p1), .val (.int p2), .val (.int (fc p1)), .val (.int ((fc p1) + p2))] [(.int (own_gl nw (((fc p1) + p2).toInt64))), (.ref xw), (.ref a1)]))
      rw [Int32.lt_iff_toInt_lt] at hc49
      have hgl2 := own_glp (n := nw) (i := ((fc p1) + p2)) ⟨by omega, by omega⟩ ⟨by omega, by omega⟩
      generalize egl2 : (own_gl nw (((fc p1) + p2).toInt64)) = gl2 at hgl2 ⊢
      show own_Run p e below Φ (T98.setTop (mkF m 68 #[.val (.ref a1), .val (.int p1), .val (.int p2), .val (.int (fc p1)), .val (.int ((fc p1) + p2))] [(.int gl2), (.ref xw), (.ref a1)]))
      refine own_callS X98 hx hZ (y := (⟨"java/util/Arrays", "copyOf", "([II)[I"⟩ : MethodName)) (W := 1) (argsL := [(.ref xw), (.int gl2)]) (rest := [(.ref a1)]) hown (hw _ (List.mem_of_getElem? (i := 45) rfl)) (hw _ (List.mem_of_getElem? (i := 46) rfl)) (hw _ (List.mem_of_getElem? (i := 47) rfl)) (hw _ (List.mem_of_getElem? (i := 48) rfl)) (by decide) (own_bk (rm_cp32 l Z a0 hw xw gl2 kw nw gw h3 n0 F9 F10 ⟨by omega, by omega, by omega⟩) hZ (hw _ (List.mem_of_getElem? (i := 48) rfl)) (hw _ (List.mem_of_getElem? (i := 47) rfl)) (by decide) (by decide)) e98 (g := (mkF m 68 #[.val (.ref a1), .val (.int p1), .val (.int p2), .val (.int (fc p1)), .val (.int ((fc p1) + p2))] [(.int gl2), (.ref xw), (.ref a1)])) rfl (by rw [hml]; rfl) (lenOf pd_5 rfl) rfl (by show 2 * 0 + _ ≤ _; exact Nat.le_of_eq rfl) (hb hby d4_68) (own_le (Nat.add_le_add_right hc3 0) (by decide)) (own_le (Nat.add_le_add_right hs3 0) (by decide)) (fun v99 T99 h99 L99 X99 e99 q99 => ?_)
      obtain ⟨rfl, M99, K99, P99_0⟩ := q99
      have N99 := Fr.app N98 M99
      obtain ⟨r99, gr99⟩ : ∃ z, z = h3.size := ⟨_, rfl⟩
      rw [← gr99] at P99_0 ⊢
      have ne_xc_r99 : xc ≠ r99 := Nat.ne_of_lt (Nat.lt_of_lt_of_le F8.lt (Nat.le_of_eq gr99.symm))
      have ne_xw_r99 : xw ≠ r99 := Nat.ne_of_lt (Nat.lt_of_lt_of_le F9.lt (Nat.le_of_eq gr99.symm))
      have ne_a1_r99 : a1 ≠ r99 := Nat.ne_of_lt (Nat.lt_of_lt_of_le F4.lt (Nat.le_of_eq gr99.symm))
      obtain ⟨kr99, Vr99⟩ := P99_0
      have F100 : Fld Z h99 a1 "com/example/hueline/hueline/model/Degrees" "withDegree" "[I" (.ref xw) := (F6.keep K99 nin0)
      have F101 : Exa Z h99 a1 "com/example/hueline/hueline/model/Degrees" := (F4.keep K99)
      obtain ⟨T102, h102, X102, e102, W102, st102⟩ := putF X99 hx hZ hown (host := "") (Or.inl (hw _ (List.mem_of_getElem? (i := 12) rfl))) Via.refl e99 F100 F101 (Or.inl (hw _ (List.mem_of_getElem? (i := 13) rfl))) (hw _ (List.mem_of_getElem? (i := 1) rfl)) (ty := (.array .int)) (by decide) rfl rfl (g := (mkF m 71 #[.val (.ref a1), .val (.int p1), .val (.int p2), .val (.int (fc p1)), .val (.int ((fc p1) + p2))] [(.ref r99), (.ref a1)])) rfl rfl (hb hby d4_71)
      refine own_go st102 ?_
      have G102 : Fld Z h102 a1 "com/example/hueline/hueline/model/Degrees" "withDegree" "[I" (.ref r99) := F100.same W102
      have N102 := Fr.snoc X102 N99 hga
      have F103 : Exa Z h102 a1 "com/example/hueline/hueline/model/Degrees" := (F101.wr W102)
      have F104 : Fld Z h102 a1 "com/example/hueline/hueline/model/Degrees" "counts" "[I" (.ref xc) := ((F5.keep K99 nin0).other W102 (Or.inr (slot_ne (Or.inl (hw _ (List.mem_of_getElem? (i := 11) rfl))) (Or.inl (hw _ (List.mem_of_getElem? (i := 13) rfl))) (by decide) (t := (.array .int)) (t' := (.array .int)) (by decide) (by decide))))
      have F105 : Fld Z h102 a1 "com/example/hueline/hueline/model/Degrees" "max" "I" (.int mx) := ((F7.keep K99 nin0).other W102 (Or.inr (slot_ne (Or.inl (hw _ (List.mem_of_getElem? (i := 24) rfl))) (Or.inl (hw _ (List.mem_of_getElem? (i := 13) rfl))) (by decide) (t := .int) (t' := (.array .int)) (by decide) (by decide))))
      have F106 : Arv Z h102 xc kc .int nc (own_cl fc) (.int (0 : Int32)) := ((F8.keep K99 nin0).other W102 nca)
      have F107 : Arv Z h102 r99 kr99 .int gl2 (own_cl (own_tr gw nw)) (.int (0 : Int32)) := (Vr99.other W102 (Ne.symm ne_a1_r99))
      have F108 : n0 ≤ h102.size := (Nat.le_trans (Nat.le_trans F10 K99.1) (Keep.of_wr W102).1)
      exact J74_12 xc kc nc r99 kr99 gl2 (own_tr gw nw) mx T102 h102 _ _ _ X102 e102 N102 (Nat.add_le_add_right (Nat.add_le_add_right hc3 0) 1) (Nat.add_le_add_right (Nat.add_le_add_right hs3 0) 32) F103 F104 G102 F105 F106 F107 F108 hgc (Nat.le_trans F10 (Nat.le_of_eq gr99.symm)) nca (Ne.symm ne_a1_r99) ne_xc_r99 hN (Or.inr (hgl2.2.2.2 (by omega) (by omega))) ⟨by omega, by omega⟩ hf0 (fun x => ⟨(hfb x).1, by have := (hfb x).2; omega⟩) hpn (by omega)
  show own_Run p e below Φ (T1.setTop (mkF m 6 #[.val (.ref a1), .val (.int p1), .val (.int p2), .unset, .unset] [(.int nc), (.int p1)]))
  by_cases hc6 : p1 < nc
  · refine own_go (fun t k => XS.icmpYes X1.here hx rfl (pc0 := 6) (pc' := 30) rfl (hb hby d4_6) rfl (tlt hc6).1 (by decide) (by decide) k) ?_
    exact J30_2 xc kc nc xw kw nw gw mx T1 h0 _ _ _ X1 e1 N0 (by decide) (by decide) FE Fc Fw Fm Vc Vw H2 hgc hgw nca nwa ncw hN hW hmx hf0 hfb (by rw [Int32.lt_iff_toInt_lt] at hc6; exact hc6)
  · refine own_go (fun t k => XS.icmpNo X1.here hx rfl (hb hby d4_6) rfl (flt hc6).1 k) ?_
    refine own_go (fun t k => XS.aloadN X1.here hx rfl (hb hby d4_9) rfl rfl  k) ?_
    refine own_go (fun t k => XS.aloadN X1.here hx rfl (hb hby d4_10) rfl rfl  k) ?_
    obtain ⟨T109, X109, e109, st109⟩ := getF X1 hx hZ hown (host := "") (Or.inl (hw _ (List.mem_of_getElem? (i := 10) rfl))) Via.refl e1 Fc (g := (mkF m 11 #[.val (.ref a1), .val (.int p1), .val (.int p2), .unset, .unset] [(.ref a1), (.ref a1)])) rfl rfl (hb hby d4_11)
    refine own_go st109 ?_
    show own_Run p e below Φ (T109.setTop (mkF m 14 #[.val (.ref a1), .val (.int p1), .val (.int p2), .unset, .unset] [(.ref xc), (.ref a1)]))
    refine own_go (fun t k => XS.aloadN X109.here hx rfl (hb hby d4_14) rfl rfl  k) ?_
    obtain ⟨T110, X110, e110, st110⟩ := getF X109 hx hZ hown (host := "") (Or.inl (hw _ (List.mem_of_getElem? (i := 10) rfl))) Via.refl e109 Fc (g := (mkF m 15 #[.val (.ref a1), .val (.int p1), .val (.int p2), .unset, .unset] [(.ref a1), (.ref xc), (.ref a1)])) rfl rfl (hb hby d4_15)
    refine own_go st110 ?_
    refine own_arrlen X110 hx hZ e110 Vc (g := (mkF m 18 #[.val (.ref a1), .val (.int p1), .val (.int p2), .unset, .unset] [(.ref xc), (.ref xc), (.ref a1)])) rfl rfl (hb hby d4_18) ?_
    refine own_go (fun t k => XS.iloadN X110.here hx rfl (hb hby d4_19) rfl  k) ?_
    refine own_go (fun t k => XS.i2l X110.here hx rfl (hb hby d4_20) rfl k) ?_
    show own_Run p e below Φ (T110.setTop (mkF m 21 #[.val (.ref a1), .val (.int p1), .val (.int p2), .unset, .unset] [(.long (p1.toInt64)), (.int nc), (.ref xc), (.ref a1)]))
    refine own_callS X110 hx hZ (y := (⟨"com/example/hueline/hueline/model/BigArrays", "grownLength", "(IJ)I"⟩ : MethodName)) (W := 2) (argsL := [(.int nc), (.long (p1.toInt64))]) (rest := [(.ref xc), (.ref a1)]) hown (hw _ (List.mem_of_getElem? (i := 33) rfl)) (hw _ (List.mem_of_getElem? (i := 34) rfl)) (hw _ (List.mem_of_getElem? (i := 35) rfl)) (hw _ (List.mem_of_getElem? (i := 36) rfl)) (by decide) (own_bk (rm_gl l Z a0 hw nc (p1.toInt64) h0 n0 (by rw [c_i2l]; omega)) hZ (hw _ (List.mem_of_getElem? (i := 36) rfl)) (hw _ (List.mem_of_getElem? (i := 35) rfl)) (by decide) (by decide)) e110 (g := (mkF m 21 #[.val (.ref a1), .val (.int p1), .val (.int p2), .unset, .unset] [(.long (p1.toInt64)), (.int nc), (.ref xc), (.ref a1)])) rfl (by rw [hml]; rfl) (lenOf pd_3 rfl) rfl (by show 2 * 0 + _ ≤ _; exact Nat.le_of_eq rfl) (hb hby d4_21) (by decide) (by decide) (fun v111 T111 h111 L111 X111 e111 q111 => ?_)
    obtain ⟨rfl, M111, s111⟩ := q111
    replace e111 : T111.heap = h0 := e111.trans s111
    have N111 := Fr.app N0 M111
    show own_Run p e below Φ (T111.setTop (mkF m 24 #[.val (.ref a1), .val (.int p1), .val (.int p2), .unset, .unset] [(.int (own_gl nc (p1.toInt64))), (.ref xc), (.ref a1)]))
    rw [Int32.lt_iff_toInt_lt] at hc6
    have hgl := own_glp (n := nc) (i := p1) ⟨by omega, by omega⟩ ⟨by omega, by omega⟩
    generalize egl : (own_gl nc (p1.toInt64)) = gl at hgl ⊢
    show own_Run p e below Φ (T111.setTop (mkF m 24 #[.val (.ref a1), .val (.int p1), .val (.int p2), .unset, .unset] [(.int gl), (.ref xc), (.ref a1)]))
    refine own_callS X111 hx hZ (y := (⟨"java/util/Arrays", "copyOf", "([II)[I"⟩ : MethodName)) (W := 1) (argsL := [(.ref xc), (.int gl)]) (rest := [(.ref a1)]) hown (hw _ (List.mem_of_getElem? (i := 45) rfl)) (hw _ (List.mem_of_getElem? (i := 46) rfl)) (hw _ (List.mem_of_getElem? (i := 47) rfl)) (hw _ (List.mem_of_getElem? (i := 48) rfl)) (by decide) (own_bk (rm_cp126 l Z a0 hw xc gl kc nc fc h0 n0 Vc H2 ⟨by omega, by omega, by omega⟩) hZ (hw _ (List.mem_of_getElem? (i := 48) rfl)) (hw _ (List.mem_of_getElem? (i := 47) rfl)) (by decide) (by decide)) e111 (g := (mkF m 24 #[.val (.ref a1), .val (.int p1), .val (.int p2), .unset, .unset] [(.int gl), (.ref xc), (.ref a1)])) rfl (by rw [hml]; rfl) (lenOf pd_5 rfl) rfl (by show 2 * 0 + _ ≤ _; exact Nat.le_of_eq rfl) (hb hby d4_24) (by decide) (by decide) (fun v112 T112 h112 L112 X112 e112 q112 => ?_)
    obtain ⟨rfl, M112, K112, P112_0⟩ := q112
    have N112 := Fr.app N111 M112
    obtain ⟨r112, gr112⟩ : ∃ z, z = h0.size := ⟨_, rfl⟩
    rw [← gr112] at P112_0 ⊢
    have ne_xc_r112 : xc ≠ r112 := Nat.ne_of_lt (Nat.lt_of_lt_of_le Vc.lt (Nat.le_of_eq gr112.symm))
    have ne_xw_r112 : xw ≠ r112 := Nat.ne_of_lt (Nat.lt_of_lt_of_le Vw.lt (Nat.le_of_eq gr112.symm))
    have ne_a1_r112 : a1 ≠ r112 := Nat.ne_of_lt (Nat.lt_of_lt_of_le FE.lt (Nat.le_of_eq gr112.symm))
    obtain ⟨kr112, Vr112⟩ := P112_0
    rw [own_trE hf0] at Vr112
    have F113 : Fld Z h112 a1 "com/example/hueline/hueline/model/Degrees" "counts" "[I" (.ref xc) := (Fc.keep K112 nin0)
    have F114 : Exa Z h112 a1 "com/example/hueline/hueline/model/Degrees" := (FE.keep K112)
    obtain ⟨T115, h115, X115, e115, W115, st115⟩ := putF X112 hx hZ hown (host := "") (Or.inl (hw _ (List.mem_of_getElem? (i := 10) rfl))) Via.refl e112 F113 F114 (Or.inl (hw _ (List.mem_of_getElem? (i := 11) rfl))) (hw _ (List.mem_of_getElem? (i := 1) rfl)) (ty := (.array .int)) (by decide) rfl rfl (g := (mkF m 27 #[.val (.ref a1), .val (.int p1), .val (.int p2), .unset, .unset] [(.ref r112), (.ref a1)])) rfl rfl (hb hby d4_27)
    refine own_go st115 ?_
    have G115 : Fld Z h115 a1 "com/example/hueline/hueline/model/Degrees" "counts" "[I" (.ref r112) := F113.same W115
    have N115 := Fr.snoc X115 N112 hga
    have F116 : Exa Z h115 a1 "com/example/hueline/hueline/model/Degrees" := (F114.wr W115)
    have F117 : Fld Z h115 a1 "com/example/hueline/hueline/model/Degrees" "withDegree" "[I" (.ref xw) := ((Fw.keep K112 nin0).other W115 (Or.inr (slot_ne (Or.inl (hw _ (List.mem_of_getElem? (i := 13) rfl))) (Or.inl (hw _ (List.mem_of_getElem? (i := 11) rfl))) (by decide) (t := (.array .int)) (t' := (.array .int)) (by decide) (by decide))))
    have F118 : Fld Z h115 a1 "com/example/hueline/hueline/model/Degrees" "max" "I" (.int mx) := ((Fm.keep K112 nin0).other W115 (Or.inr (slot_ne (Or.inl (hw _ (List.mem_of_getElem? (i := 24) rfl))) (Or.inl (hw _ (List.mem_of_getElem? (i := 11) rfl))) (by decide) (t := .int) (t' := (.array .int)) (by decide) (by decide))))
    have F119 : Arv Z h115 r112 kr112 .int gl (own_cl fc) (.int (0 : Int32)) := (Vr112.other W115 (Ne.symm ne_a1_r112))
    have F120 : Arv Z h115 xw kw .int nw (own_cl gw) (.int (0 : Int32)) := ((Vw.keep K112 nin0).other W115 nwa)
    have F121 : n0 ≤ h115.size := (Nat.le_trans (Nat.le_trans H2 K112.1) (Keep.of_wr W115).1)
    exact J30_2 r112 kr112 gl xw kw nw gw mx T115 h115 _ _ _ X115 e115 N115 (by decide) (by decide) F116 G115 F117 F118 F119 F120 F121 (Nat.le_trans H2 (Nat.le_of_eq gr112.symm)) hgw (Ne.symm ne_a1_r112) nwa (Ne.symm ne_xw_r112) ⟨by omega, by omega⟩ hW hmx (fun x h => hf0 x (by omega)) hfb (by omega)
theorem own_m63 (x : Int32) : 0 ≤ (x &&& (63 : Int32)).toInt ∧ (x &&& (63 : Int32)).toInt < 64 := by have := c_mask x 63 6 (by decide) (by decide); omega
theorem own_m15 (x : Int32) : 0 ≤ (x &&& (15 : Int32)).toInt ∧ (x &&& (15 : Int32)).toInt < 16 := by have := c_mask x 15 4 (by decide) (by decide); omega
theorem own_m31 (x : Int32) : 0 ≤ (x &&& (31 : Int32)).toInt := by have := c_mask x 31 5 (by decide) (by decide); omega
theorem own_nnn (x : Int32) : 0 ≤ (x &&& (63 : Int32)).toInt := (own_m63 x).1
theorem own_nnu (x : Int32) : 0 ≤ ((x.toUInt32 >>> ((1 : Int32) &&& 31).toUInt32).toInt32).toInt := by have := c_iushr x 1 1 (by decide) (by decide); omega
theorem pn_c0 : plainName "com/example/hueline/hueline/model/DegreesOfPinLaw" = true := by first | (simp [plainName, overriddenIn]; done) | decide +kernel
theorem pd_0 : parseMethodDescriptor "()V" = some ⟨[], none⟩ := by decide +kernel
theorem pd_2 : parseMethodDescriptor "(I)I" = some ⟨[.int], some .int⟩ := by decide +kernel
theorem ef_0_IIII (m : MethodId) (x0 : Int32) (x1 : Int32) (x2 : Int32) (x3 : Int32) : entryFrame m #[(.int x0), (.int x1), (.int x2), (.int x3)] maxLocals = mkF m 0 #[.val (.int x0), .val (.int x1), .val (.int x2), .val (.int x3), .unset, .unset, .unset, .unset, .unset, .unset, .unset, .unset, .unset, .unset, .unset] [] := by first | (simp [entryFrame, mkF, argsToLocals, Value.category, maxLocals]; done) | rfl
set_option maxRecDepth 65536 in
set_option maxHeartbeats 40000000 in
theorem rm_law (l : Launch) (Z : State) (a0 : Array Value) (hw : ∀ d ∈ tables_1, d.before a0 Z = true) (p1 : Int32) (p2 : Int32) (p3 : Int32) (p4 : Int32) (h0 : Heap) (n0 : Nat) (Z0 : n0 ≤ h0.size) :
    own_Met l Z x code maxLocals ret room_1 #[(.int p1), (.int p2), (.int p3), (.int p4)] h0 (fun v h L => v = some (.int 1) ∧ Fr n0 L) := by
  intro ws
  refine MetFree.of_bodySF (plainFor_of_name pn_c0) hisR ?_
  intro p e s m args below meth c s₁ Bd hml0 hP hK
  obtain ⟨rfl, hZ, hh⟩ := hP
  have hx := Bd.exec
  have hby := Bd.bytes
  have hml : c.maxLocals = 15 := hml0
  have hown : s.vm.findClass "com/example/hueline/hueline/model/DegreesOfPinLaw" = some m.cls := findClass_of_methodNamed Bd.named
  have hnm := (name_of_methodNamed Bd.named Bd.method).1
  have hlk : meth.locks = false := Bd.notSynchronized
  have X0 : Stand p l e room_1 s m #[(.int p1), (.int p2), (.int p3), (.int p4)] below meth c s₁ [] 0 0 := Stand.of_body Bd
  have e0 : s₁.heap = h0 := by rw [← hh, Bd.state]; rfl
  have N0 := Fr.nil n0
  refine own_body (Q := fun v h L => v = some (.int 1) ∧ Fr n0 L) ?_
  generalize hΦ : own_Fin s below _ _ _ = Φ
  refine own_cast (ef_0_IIII m p1 p2 p3 p4) ?_
  show own_Run p e below Φ (s₁.setTop (mkF m 0 #[.val (.int p1), .val (.int p2), .val (.int p3), .val (.int p4), .unset, .unset, .unset, .unset, .unset, .unset, .unset, .unset, .unset, .unset, .unset] []))
  obtain ⟨T1, h1, X1, e1, E1, A1, D1, -, st1⟩ := newO X0 hx hZ hown (hw _ (List.mem_of_getElem? (i := 0) rfl)) (hw _ (List.mem_of_getElem? (i := 1) rfl)) (hw _ (List.mem_of_getElem? (i := 2) rfl)) e0 (g := (mkF m 0 #[.val (.int p1), .val (.int p2), .val (.int p3), .val (.int p4), .unset, .unset, .unset, .unset, .unset, .unset, .unset, .unset, .unset, .unset, .unset] [])) rfl (hb hby at_0) (by decide) (by decide)
  refine own_go st1 ?_
  obtain ⟨b1, g1⟩ : ∃ z, z = h0.size := ⟨_, rfl⟩
  rw [← g1] at A1 D1 ⊢
  have G2 : Fld Z h1 b1 "com/example/hueline/hueline/model/Degrees" "counts" "[I" .null := D1 (Or.inl (hw _ (List.mem_of_getElem? (i := 11) rfl))) (ty := (.array .int)) (by decide)
  have G3 : Fld Z h1 b1 "com/example/hueline/hueline/model/Degrees" "withDegree" "[I" .null := D1 (Or.inl (hw _ (List.mem_of_getElem? (i := 13) rfl))) (ty := (.array .int)) (by decide)
  have G4 : Fld Z h1 b1 "com/example/hueline/hueline/model/Degrees" "max" "I" (.int (0 : Int32)) := D1 (Or.inl (hw _ (List.mem_of_getElem? (i := 24) rfl))) (ty := .int) (by decide)
  refine own_go (fun t k => XS.dup X1.here hx rfl (hb hby at_3) rfl rfl k) ?_
  have F5 : n0 ≤ h1.size := (Nat.le_trans Z0 E1.1)
  refine own_callI X1 hx hZ (y := (⟨"com/example/hueline/hueline/model/Degrees", "<init>", "()V"⟩ : MethodName)) (W := 1) (a := b1) (argsL := []) (rest := [(.ref b1)]) rfl hown (hw _ (List.mem_of_getElem? (i := 3) rfl)) (hw _ (List.mem_of_getElem? (i := 4) rfl)) (hw _ (List.mem_of_getElem? (i := 5) rfl)) (by decide) (own_bk (rm_d0 l Z a0 hw b1 h1 n0 A1 G2 G3 G4 (Nat.le_trans Z0 (Nat.le_of_eq g1.symm)) F5) hZ (hw _ (List.mem_of_getElem? (i := 5) rfl)) (hw _ (List.mem_of_getElem? (i := 2) rfl)) (by decide) (by decide)) e1 (g := (mkF m 4 #[.val (.int p1), .val (.int p2), .val (.int p3), .val (.int p4), .unset, .unset, .unset, .unset, .unset, .unset, .unset, .unset, .unset, .unset, .unset] [(.ref b1), (.ref b1)])) rfl (by rw [hml]; rfl) (lenOf pd_0 rfl) rfl (by show 2 * 0 + _ ≤ _; exact Nat.le_of_eq rfl) (hb hby at_4) (by decide) (by decide) (fun v6 T6 h6 L6 X6 e6 q6 => ?_)
  obtain ⟨rfl, M6, -, P6_0, P6_1, P6_2⟩ := q6
  have N6 := Fr.app N0 M6
  refine own_go (fun t k => XS.astore X6.here hx rfl (hb hby at_7) rfl rfl (l' := #[.val (.int p1), .val (.int p2), .val (.int p3), .val (.int p4), .val (.ref b1), .unset, .unset, .unset, .unset, .unset, .unset, .unset, .unset, .unset, .unset]) rfl k) ?_
  refine own_go (fun t k => XS.iloadN X6.here hx rfl (hb hby at_9) rfl  k) ?_
  show own_Run p e below Φ (T6.setTop (mkF m 10 #[.val (.int p1), .val (.int p2), .val (.int p3), .val (.int p4), .val (.ref b1), .unset, .unset, .unset, .unset, .unset, .unset, .unset, .unset, .unset, .unset] [(.int p1)]))
  refine own_go (fun t k => XS.bipush X6.here hx rfl (hb hby at_10) k) ?_
  refine own_go (fun t k => XS.iand X6.here hx rfl (hb hby at_12) rfl k) ?_
  refine own_go (fun t k => XS.istore X6.here hx rfl (hb hby at_13) rfl (l' := #[.val (.int p1), .val (.int p2), .val (.int p3), .val (.int p4), .val (.ref b1), .val (.int (p1 &&& (63 : Int32))), .unset, .unset, .unset, .unset, .unset, .unset, .unset, .unset, .unset]) rfl k) ?_
  refine own_go (fun t k => XS.iloadN X6.here hx rfl (hb hby at_15) rfl  k) ?_
  refine own_go (fun t k => XS.bipush X6.here hx rfl (hb hby at_16) k) ?_
  show own_Run p e below Φ (T6.setTop (mkF m 18 #[.val (.int p1), .val (.int p2), .val (.int p3), .val (.int p4), .val (.ref b1), .val (.int (p1 &&& (63 : Int32))), .unset, .unset, .unset, .unset, .unset, .unset, .unset, .unset, .unset] [(.int (63 : Int32)), (.int p2)]))
  refine own_go (fun t k => XS.iand X6.here hx rfl (hb hby at_18) rfl k) ?_
  refine own_go (fun t k => XS.istore X6.here hx rfl (hb hby at_19) rfl (l' := #[.val (.int p1), .val (.int p2), .val (.int p3), .val (.int p4), .val (.ref b1), .val (.int (p1 &&& (63 : Int32))), .val (.int (p2 &&& (63 : Int32))), .unset, .unset, .unset, .unset, .unset, .unset, .unset, .unset]) rfl k) ?_
  refine own_go (fun t k => XS.iloadN X6.here hx rfl (hb hby at_21) rfl  k) ?_
  refine own_go (fun t k => XS.bipush X6.here hx rfl (hb hby at_22) k) ?_
  refine own_go (fun t k => XS.iand X6.here hx rfl (hb hby at_24) rfl k) ?_
  show own_Run p e below Φ (T6.setTop (mkF m 25 #[.val (.int p1), .val (.int p2), .val (.int p3), .val (.int p4), .val (.ref b1), .val (.int (p1 &&& (63 : Int32))), .val (.int (p2 &&& (63 : Int32))), .unset, .unset, .unset, .unset, .unset, .unset, .unset, .unset] [(.int (p3 &&& (15 : Int32)))]))
  refine own_go (fun t k => XS.istore X6.here hx rfl (hb hby at_25) rfl (l' := #[.val (.int p1), .val (.int p2), .val (.int p3), .val (.int p4), .val (.ref b1), .val (.int (p1 &&& (63 : Int32))), .val (.int (p2 &&& (63 : Int32))), .val (.int (p3 &&& (15 : Int32))), .unset, .unset, .unset, .unset, .unset, .unset, .unset]) rfl k) ?_
  refine own_go (fun t k => XS.iloadN X6.here hx rfl (hb hby at_27) rfl  k) ?_
  refine own_go (fun t k => XS.iconst X6.here hx rfl (hb hby at_28) k) ?_
  refine own_go (fun t k => XS.iushr X6.here hx rfl (hb hby at_29) rfl k) ?_
  refine own_go (fun t k => XS.bipush X6.here hx rfl (hb hby at_30) k) ?_
  show own_Run p e below Φ (T6.setTop (mkF m 32 #[.val (.int p1), .val (.int p2), .val (.int p3), .val (.int p4), .val (.ref b1), .val (.int (p1 &&& (63 : Int32))), .val (.int (p2 &&& (63 : Int32))), .val (.int (p3 &&& (15 : Int32))), .unset, .unset, .unset, .unset, .unset, .unset, .unset] [(.int (15 : Int32)), (.int ((p3.toUInt32 >>> ((4 : Int32) &&& 31).toUInt32).toInt32))]))
  refine own_go (fun t k => XS.iand X6.here hx rfl (hb hby at_32) rfl k) ?_
  refine own_go (fun t k => XS.istore X6.here hx rfl (hb hby at_33) rfl (l' := #[.val (.int p1), .val (.int p2), .val (.int p3), .val (.int p4), .val (.ref b1), .val (.int (p1 &&& (63 : Int32))), .val (.int (p2 &&& (63 : Int32))), .val (.int (p3 &&& (15 : Int32))), .val (.int (((p3.toUInt32 >>> ((4 : Int32) &&& 31).toUInt32).toInt32) &&& (15 : Int32))), .unset, .unset, .unset, .unset, .unset, .unset]) rfl k) ?_
  show own_Run p e below Φ (T6.setTop (mkF m 35 #[.val (.int p1), .val (.int p2), .val (.int p3), .val (.int p4), .val (.ref b1), .val (.int (p1 &&& (63 : Int32))), .val (.int (p2 &&& (63 : Int32))), .val (.int (p3 &&& (15 : Int32))), .val (.int (((p3.toUInt32 >>> ((4 : Int32) &&& 31).toUInt32).toInt32) &&& (15 : Int32))), .unset, .unset, .unset, .unset, .unset, .unset] []))
  have hav := own_m63 p1
  generalize eav_ : (p1 &&& (63 : Int32)) = av at hav ⊢
  have hbv := own_m63 p2
  generalize ebv_ : (p2 &&& (63 : Int32)) = bv at hbv ⊢
  have hu1 := own_m15 p3
  generalize eu1_ : (p3 &&& (15 : Int32)) = u1 at hu1 ⊢
  have hu2 := own_m15 ((p3.toUInt32 >>> ((4 : Int32) &&& 31).toUInt32).toInt32)
  generalize eu2_ : (((p3.toUInt32 >>> ((4 : Int32) &&& 31).toUInt32).toInt32) &&& (15 : Int32)) = u2 at hu2 ⊢
  show own_Run p e below Φ (T6.setTop (mkF m 35 #[.val (.int p1), .val (.int p2), .val (.int p3), .val (.int p4), .val (.ref b1), .val (.int av), .val (.int bv), .val (.int u1), .val (.int u2), .unset, .unset, .unset, .unset, .unset, .unset] []))
  refine own_go (fun t k => XS.iload X6.here hx rfl (hb hby at_35) rfl  k) ?_
  refine own_go (fun t k => XS.iload X6.here hx rfl (hb hby at_37) rfl  k) ?_
  refine own_go (fun t k => XS.iload X6.here hx rfl (hb hby at_39) rfl  k) ?_
  by_cases hc41 : av = bv
  · refine own_go (fun t k => XS.icmpNo X6.here hx rfl (hb hby at_41) rfl (teq hc41).2 k) ?_
    refine own_go (fun t k => XS.iload X6.here hx rfl (hb hby at_44) rfl  k) ?_
    show own_Run p e below Φ (T6.setTop (mkF m 46 #[.val (.int p1), .val (.int p2), .val (.int p3), .val (.int p4), .val (.ref b1), .val (.int av), .val (.int bv), .val (.int u1), .val (.int u2), .unset, .unset, .unset, .unset, .unset, .unset] [(.int u2), (.int u1)]))
    refine own_go (fun t k => XS.goto X6.here hx rfl (pc0 := 46) (pc' := 50) rfl (hb hby at_46) (by decide) (by decide) k) ?_
    refine own_go (fun t k => XS.iadd X6.here hx rfl (hb hby at_50) rfl k) ?_
    refine own_go (fun t k => XS.istore X6.here hx rfl (hb hby at_51) rfl (l' := #[.val (.int p1), .val (.int p2), .val (.int p3), .val (.int p4), .val (.ref b1), .val (.int av), .val (.int bv), .val (.int u1), .val (.int u2), .val (.int (u1 + u2)), .unset, .unset, .unset, .unset, .unset]) rfl k) ?_
    refine own_go (fun t k => XS.iloadN X6.here hx rfl (hb hby at_53) rfl  k) ?_
    refine own_go (fun t k => XS.bipush X6.here hx rfl (hb hby at_54) k) ?_
    show own_Run p e below Φ (T6.setTop (mkF m 56 #[.val (.int p1), .val (.int p2), .val (.int p3), .val (.int p4), .val (.ref b1), .val (.int av), .val (.int bv), .val (.int u1), .val (.int u2), .val (.int (u1 + u2)), .unset, .unset, .unset, .unset, .unset] [(.int (8 : Int32)), (.int p3)]))
    refine own_go (fun t k => XS.iushr X6.here hx rfl (hb hby at_56) rfl k) ?_
    refine own_go (fun t k => XS.bipush X6.here hx rfl (hb hby at_57) k) ?_
    refine own_go (fun t k => XS.iand X6.here hx rfl (hb hby at_59) rfl k) ?_
    refine own_go (fun t k => XS.iload X6.here hx rfl (hb hby at_60) rfl  k) ?_
    refine own_callS X6 hx hZ (y := (⟨"java/lang/Math", "min", "(II)I"⟩ : MethodName)) (W := 0) (argsL := [(.int (((p3.toUInt32 >>> ((8 : Int32) &&& 31).toUInt32).toInt32) &&& (31 : Int32))), (.int (u1 + u2))]) (rest := []) hown (hw _ (List.mem_of_getElem? (i := 14) rfl)) (hw _ (List.mem_of_getElem? (i := 15) rfl)) (hw _ (List.mem_of_getElem? (i := 16) rfl)) (hw _ (List.mem_of_getElem? (i := 17) rfl)) (by decide) (own_bk (rm_mni l Z a0 hw (((p3.toUInt32 >>> ((8 : Int32) &&& 31).toUInt32).toInt32) &&& (31 : Int32)) (u1 + u2) h6 n0 ) hZ (hw _ (List.mem_of_getElem? (i := 17) rfl)) (hw _ (List.mem_of_getElem? (i := 16) rfl)) (by decide) (by decide)) e6 (g := (mkF m 62 #[.val (.int p1), .val (.int p2), .val (.int p3), .val (.int p4), .val (.ref b1), .val (.int av), .val (.int bv), .val (.int u1), .val (.int u2), .val (.int (u1 + u2)), .unset, .unset, .unset, .unset, .unset] [(.int (u1 + u2)), (.int (((p3.toUInt32 >>> ((8 : Int32) &&& 31).toUInt32).toInt32) &&& (31 : Int32)))])) rfl (by rw [hml]; rfl) (lenOf pd_1 rfl) rfl (by show 2 * 0 + _ ≤ _; exact Nat.le_of_eq rfl) (hb hby at_62) (by decide) (by decide) (fun v7 T7 h7 L7 X7 e7 q7 => ?_)
    obtain ⟨rfl, M7, s7⟩ := q7
    replace e7 : T7.heap = h6 := e7.trans s7
    have N7 := Fr.app N6 M7
    show own_Run p e below Φ (T7.setTop (mkF m 65 #[.val (.int p1), .val (.int p2), .val (.int p3), .val (.int p4), .val (.ref b1), .val (.int av), .val (.int bv), .val (.int u1), .val (.int u2), .val (.int (u1 + u2)), .unset, .unset, .unset, .unset, .unset] [(.int (own_mini (((p3.toUInt32 >>> ((8 : Int32) &&& 31).toUInt32).toInt32) &&& (31 : Int32)) (u1 + u2)))]))
    refine own_go (fun t k => XS.istore X7.here hx rfl (hb hby at_65) rfl (l' := #[.val (.int p1), .val (.int p2), .val (.int p3), .val (.int p4), .val (.ref b1), .val (.int av), .val (.int bv), .val (.int u1), .val (.int u2), .val (.int (u1 + u2)), .val (.int (own_mini (((p3.toUInt32 >>> ((8 : Int32) &&& 31).toUInt32).toInt32) &&& (31 : Int32)) (u1 + u2))), .unset, .unset, .unset, .unset]) rfl k) ?_
    show own_Run p e below Φ (T7.setTop (mkF m 67 #[.val (.int p1), .val (.int p2), .val (.int p3), .val (.int p4), .val (.ref b1), .val (.int av), .val (.int bv), .val (.int u1), .val (.int u2), .val (.int (u1 + u2)), .val (.int (own_mini (((p3.toUInt32 >>> ((8 : Int32) &&& 31).toUInt32).toInt32) &&& (31 : Int32)) (u1 + u2))), .unset, .unset, .unset, .unset] []))
    have how2 : (u1 + u2).toInt = u1.toInt + u2.toInt := own_ad (by omega)
    have htt := own_mi (a := (((p3.toUInt32 >>> ((8 : Int32) &&& 31).toUInt32).toInt32) &&& (31 : Int32))) (b := (u1 + u2)) (own_m31 _) (by omega)
    generalize ett : (own_mini (((p3.toUInt32 >>> ((8 : Int32) &&& 31).toUInt32).toInt32) &&& (31 : Int32)) (u1 + u2)) = tt at htt ⊢
    show own_Run p e below Φ (T7.setTop (mkF m 67 #[.val (.int p1), .val (.int p2), .val (.int p3), .val (.int p4), .val (.ref b1), .val (.int av), .val (.int bv), .val (.int u1), .val (.int u2), .val (.int (u1 + u2)), .val (.int tt), .unset, .unset, .unset, .unset] []))
    refine own_go (fun t k => XS.aload X7.here hx rfl (hb hby at_67) rfl rfl  k) ?_
    refine own_go (fun t k => XS.iload X7.here hx rfl (hb hby at_69) rfl  k) ?_
    refine own_go (fun t k => XS.iload X7.here hx rfl (hb hby at_71) rfl  k) ?_
    refine own_callV X7 hx hZ (y := (⟨"com/example/hueline/hueline/model/Degrees", "add", "(II)I"⟩ : MethodName)) (z := (⟨"com/example/hueline/hueline/model/Degrees", "add", "(II)I"⟩ : MethodName)) (W := 0) (a := b1) (argsL := [(.int av), (.int u1)]) (rest := []) hown (hw _ (List.mem_of_getElem? (i := 18) rfl)) (hw _ (List.mem_of_getElem? (i := 19) rfl)) (notFace_of_selects (args := #[]) (mvT hZ (hw _ (List.mem_of_getElem? (i := 21) rfl)))) (hw _ (List.mem_of_getElem? (i := 21) rfl)) (hw _ (List.mem_of_getElem? (i := 20) rfl)) (by decide) (own_bk (rm_add l Z a0 hw b1 av u1 own_z h6 n0 P6_2 P6_1 hav (by rw [own_ze]; omega)) hZ (hw _ (List.mem_of_getElem? (i := 22) rfl)) (hw _ (List.mem_of_getElem? (i := 2) rfl)) (by decide) (by decide)) e7 P6_0 (g := (mkF m 73 #[.val (.int p1), .val (.int p2), .val (.int p3), .val (.int p4), .val (.ref b1), .val (.int av), .val (.int bv), .val (.int u1), .val (.int u2), .val (.int (u1 + u2)), .val (.int tt), .unset, .unset, .unset, .unset] [(.int u1), (.int av), (.ref b1)])) rfl (by rw [hml]; rfl) (lenOf pd_1 rfl) rfl (by show 2 * 0 + _ ≤ _; exact Nat.le_of_eq rfl) (hb hby at_73) (by decide) (by decide) (fun v8 T8 h8 L8 X8 e8 q8 => ?_)
    obtain ⟨rfl, M8, -, P8_0, P8_1, P8_2⟩ := q8
    have N8 := Fr.app N7 M8
    refine own_go (fun t k => XS.pop X8.here hx rfl (hb hby at_76) rfl rfl k) ?_
    show own_Run p e below Φ (T8.setTop (mkF m 77 #[.val (.int p1), .val (.int p2), .val (.int p3), .val (.int p4), .val (.ref b1), .val (.int av), .val (.int bv), .val (.int u1), .val (.int u2), .val (.int (u1 + u2)), .val (.int tt), .unset, .unset, .unset, .unset] []))
    refine own_go (fun t k => XS.aload X8.here hx rfl (hb hby at_77) rfl rfl  k) ?_
    refine own_go (fun t k => XS.iload X8.here hx rfl (hb hby at_79) rfl  k) ?_
    refine own_go (fun t k => XS.iload X8.here hx rfl (hb hby at_81) rfl  k) ?_
    refine own_callV X8 hx hZ (y := (⟨"com/example/hueline/hueline/model/Degrees", "add", "(II)I"⟩ : MethodName)) (z := (⟨"com/example/hueline/hueline/model/Degrees", "add", "(II)I"⟩ : MethodName)) (W := 0) (a := b1) (argsL := [(.int bv), (.int u2)]) (rest := []) hown (hw _ (List.mem_of_getElem? (i := 18) rfl)) (hw _ (List.mem_of_getElem? (i := 19) rfl)) (notFace_of_selects (args := #[]) (mvT hZ (hw _ (List.mem_of_getElem? (i := 21) rfl)))) (hw _ (List.mem_of_getElem? (i := 21) rfl)) (hw _ (List.mem_of_getElem? (i := 20) rfl)) (by decide) (own_bk (rm_add l Z a0 hw b1 bv u2 (own_upd own_z av ((own_z av) + u1)) h8 n0 P8_2 P8_1 hbv (by rw [own_e hc41.symm, own_ze, own_ad (by omega)]; omega)) hZ (hw _ (List.mem_of_getElem? (i := 22) rfl)) (hw _ (List.mem_of_getElem? (i := 2) rfl)) (by decide) (by decide)) e8 P8_0 (g := (mkF m 83 #[.val (.int p1), .val (.int p2), .val (.int p3), .val (.int p4), .val (.ref b1), .val (.int av), .val (.int bv), .val (.int u1), .val (.int u2), .val (.int (u1 + u2)), .val (.int tt), .unset, .unset, .unset, .unset] [(.int u2), (.int bv), (.ref b1)])) rfl (by rw [hml]; rfl) (lenOf pd_1 rfl) rfl (by show 2 * 0 + _ ≤ _; exact Nat.le_of_eq rfl) (hb hby at_83) (by decide) (by decide) (fun v9 T9 h9 L9 X9 e9 q9 => ?_)
    obtain ⟨rfl, M9, -, P9_0, P9_1, P9_2⟩ := q9
    have N9 := Fr.app N8 M9
    refine own_go (fun t k => XS.pop X9.here hx rfl (hb hby at_86) rfl rfl k) ?_
    show own_Run p e below Φ (T9.setTop (mkF m 87 #[.val (.int p1), .val (.int p2), .val (.int p3), .val (.int p4), .val (.ref b1), .val (.int av), .val (.int bv), .val (.int u1), .val (.int u2), .val (.int (u1 + u2)), .val (.int tt), .unset, .unset, .unset, .unset] []))
    refine own_go (fun t k => XS.aload X9.here hx rfl (hb hby at_87) rfl rfl  k) ?_
    refine own_go (fun t k => XS.iload X9.here hx rfl (hb hby at_89) rfl  k) ?_
    refine own_go (fun t k => XS.iload X9.here hx rfl (hb hby at_91) rfl  k) ?_
    refine own_go (fun t k => XS.ineg X9.here hx rfl (hb hby at_93) rfl k) ?_
    refine own_callV X9 hx hZ (y := (⟨"com/example/hueline/hueline/model/Degrees", "add", "(II)I"⟩ : MethodName)) (z := (⟨"com/example/hueline/hueline/model/Degrees", "add", "(II)I"⟩ : MethodName)) (W := 0) (a := b1) (argsL := [(.int av), (.int (-tt))]) (rest := []) hown (hw _ (List.mem_of_getElem? (i := 18) rfl)) (hw _ (List.mem_of_getElem? (i := 19) rfl)) (notFace_of_selects (args := #[]) (mvT hZ (hw _ (List.mem_of_getElem? (i := 21) rfl)))) (hw _ (List.mem_of_getElem? (i := 21) rfl)) (hw _ (List.mem_of_getElem? (i := 20) rfl)) (by decide) (own_bk (rm_add l Z a0 hw b1 av (-tt) (own_upd (own_upd own_z av ((own_z av) + u1)) bv (((own_upd own_z av ((own_z av) + u1)) bv) + u2)) h9 n0 P9_2 P9_1 hav (by rw [own_e hc41, own_e hc41.symm, own_ze, own_ad (by rw [own_ad (by omega), own_ng (by omega)]; omega), own_ad (by omega), own_ng (by omega)]; omega)) hZ (hw _ (List.mem_of_getElem? (i := 22) rfl)) (hw _ (List.mem_of_getElem? (i := 2) rfl)) (by decide) (by decide)) e9 P9_0 (g := (mkF m 94 #[.val (.int p1), .val (.int p2), .val (.int p3), .val (.int p4), .val (.ref b1), .val (.int av), .val (.int bv), .val (.int u1), .val (.int u2), .val (.int (u1 + u2)), .val (.int tt), .unset, .unset, .unset, .unset] [(.int (-tt)), (.int av), (.ref b1)])) rfl (by rw [hml]; rfl) (lenOf pd_1 rfl) rfl (by show 2 * 0 + _ ≤ _; exact Nat.le_of_eq rfl) (hb hby at_94) (by decide) (by decide) (fun v10 T10 h10 L10 X10 e10 q10 => ?_)
    obtain ⟨rfl, M10, -, P10_0, P10_1, P10_2⟩ := q10
    have N10 := Fr.app N9 M10
    show own_Run p e below Φ (T10.setTop (mkF m 97 #[.val (.int p1), .val (.int p2), .val (.int p3), .val (.int p4), .val (.ref b1), .val (.int av), .val (.int bv), .val (.int u1), .val (.int u2), .val (.int (u1 + u2)), .val (.int tt), .unset, .unset, .unset, .unset] [(.int (((own_upd (own_upd own_z av ((own_z av) + u1)) bv (((own_upd own_z av ((own_z av) + u1)) bv) + u2)) av) + (-tt)))]))
    refine own_go (fun t k => XS.pop X10.here hx rfl (hb hby at_97) rfl rfl k) ?_
    refine own_go (fun t k => XS.iload X10.here hx rfl (hb hby at_98) rfl  k) ?_
    refine own_go (fun t k => XS.iload X10.here hx rfl (hb hby at_100) rfl  k) ?_
    refine own_go (fun t k => XS.isub X10.here hx rfl (hb hby at_102) rfl k) ?_
    refine own_go (fun t k => XS.istore X10.here hx rfl (hb hby at_103) rfl (l' := #[.val (.int p1), .val (.int p2), .val (.int p3), .val (.int p4), .val (.ref b1), .val (.int av), .val (.int bv), .val (.int u1), .val (.int u2), .val (.int (u1 + u2)), .val (.int tt), .val (.int ((u1 + u2) - tt)), .unset, .unset, .unset]) rfl k) ?_
    show own_Run p e below Φ (T10.setTop (mkF m 105 #[.val (.int p1), .val (.int p2), .val (.int p3), .val (.int p4), .val (.ref b1), .val (.int av), .val (.int bv), .val (.int u1), .val (.int u2), .val (.int (u1 + u2)), .val (.int tt), .val (.int ((u1 + u2) - tt)), .unset, .unset, .unset] []))
    refine own_go (fun t k => XS.iload X10.here hx rfl (hb hby at_105) rfl  k) ?_
    refine own_go (fun t k => XS.iload X10.here hx rfl (hb hby at_107) rfl  k) ?_
    refine own_go (fun t k => XS.icmpNo X10.here hx rfl (hb hby at_109) rfl (teq hc41).2 k) ?_
    refine own_go (fun t k => XS.iload X10.here hx rfl (hb hby at_112) rfl  k) ?_
    refine own_go (fun t k => XS.goto X10.here hx rfl (pc0 := 114) (pc' := 119) rfl (hb hby at_114) (by decide) (by decide) k) ?_
    show own_Run p e below Φ (T10.setTop (mkF m 119 #[.val (.int p1), .val (.int p2), .val (.int p3), .val (.int p4), .val (.ref b1), .val (.int av), .val (.int bv), .val (.int u1), .val (.int u2), .val (.int (u1 + u2)), .val (.int tt), .val (.int ((u1 + u2) - tt)), .unset, .unset, .unset] [(.int ((u1 + u2) - tt))]))
    refine own_go (fun t k => XS.istore X10.here hx rfl (hb hby at_119) rfl (l' := #[.val (.int p1), .val (.int p2), .val (.int p3), .val (.int p4), .val (.ref b1), .val (.int av), .val (.int bv), .val (.int u1), .val (.int u2), .val (.int (u1 + u2)), .val (.int tt), .val (.int ((u1 + u2) - tt)), .val (.int ((u1 + u2) - tt)), .unset, .unset]) rfl k) ?_
    show own_Run p e below Φ (T10.setTop (mkF m 121 #[.val (.int p1), .val (.int p2), .val (.int p3), .val (.int p4), .val (.ref b1), .val (.int av), .val (.int bv), .val (.int u1), .val (.int u2), .val (.int (u1 + u2)), .val (.int tt), .val (.int ((u1 + u2) - tt)), .val (.int ((u1 + u2) - tt)), .unset, .unset] []))
    have J139_11 : ∀ (vv : Int32), (0 ≤ vv.toInt) → own_Run p e below Φ (T10.setTop (mkF m 139 #[.val (.int p1), .val (.int p2), .val (.int p3), .val (.int p4), .val (.ref b1), .val (.int av), .val (.int bv), .val (.int u1), .val (.int u2), .val (.int (u1 + u2)), .val (.int tt), .val (.int ((u1 + u2) - tt)), .val (.int ((u1 + u2) - tt)), .unset, .unset] [(.int vv)])) := by
      intro vv hvv
      show own_Run p e below Φ (T10.setTop (mkF m 139 #[.val (.int p1), .val (.int p2), .val (.int p3), .val (.int p4), .val (.ref b1), .val (.int av), .val (.int bv), .val (.int u1), .val (.int u2), .val (.int (u1 + u2)), .val (.int tt), .val (.int ((u1 + u2) - tt)), .val (.int ((u1 + u2) - tt)), .unset, .unset] [(.int vv)]))
      refine own_go (fun t k => XS.istore X10.here hx rfl (hb hby at_139) rfl (l' := #[.val (.int p1), .val (.int p2), .val (.int p3), .val (.int p4), .val (.ref b1), .val (.int av), .val (.int bv), .val (.int u1), .val (.int u2), .val (.int (u1 + u2)), .val (.int tt), .val (.int ((u1 + u2) - tt)), .val (.int ((u1 + u2) - tt)), .val (.int vv), .unset]) rfl k) ?_
      refine own_go (fun t k => XS.iload X10.here hx rfl (hb hby at_141) rfl  k) ?_
      refine own_go (fun t k => XS.iload X10.here hx rfl (hb hby at_143) rfl  k) ?_
      by_cases hc145 : vv = av
      · refine own_go (fun t k => XS.icmpNo X10.here hx rfl (hb hby at_145) rfl (teq hc145).2 k) ?_
        refine own_go (fun t k => XS.iload X10.here hx rfl (hb hby at_148) rfl  k) ?_
        show own_Run p e below Φ (T10.setTop (mkF m 150 #[.val (.int p1), .val (.int p2), .val (.int p3), .val (.int p4), .val (.ref b1), .val (.int av), .val (.int bv), .val (.int u1), .val (.int u2), .val (.int (u1 + u2)), .val (.int tt), .val (.int ((u1 + u2) - tt)), .val (.int ((u1 + u2) - tt)), .val (.int vv), .unset] [(.int ((u1 + u2) - tt))]))
        refine own_go (fun t k => XS.goto X10.here hx rfl (pc0 := 150) (pc' := 166) rfl (hb hby at_150) (by decide) (by decide) k) ?_
        refine own_go (fun t k => XS.istore X10.here hx rfl (hb hby at_166) rfl (l' := #[.val (.int p1), .val (.int p2), .val (.int p3), .val (.int p4), .val (.ref b1), .val (.int av), .val (.int bv), .val (.int u1), .val (.int u2), .val (.int (u1 + u2)), .val (.int tt), .val (.int ((u1 + u2) - tt)), .val (.int ((u1 + u2) - tt)), .val (.int vv), .val (.int ((u1 + u2) - tt))]) rfl k) ?_
        refine own_go (fun t k => XS.aload X10.here hx rfl (hb hby at_168) rfl rfl  k) ?_
        refine own_go (fun t k => XS.iload X10.here hx rfl (hb hby at_170) rfl  k) ?_
        refine own_callV X10 hx hZ (y := (⟨"com/example/hueline/hueline/model/Degrees", "of", "(I)I"⟩ : MethodName)) (z := (⟨"com/example/hueline/hueline/model/Degrees", "of", "(I)I"⟩ : MethodName)) (W := 0) (a := b1) (argsL := [(.int av)]) (rest := []) hown (hw _ (List.mem_of_getElem? (i := 28) rfl)) (hw _ (List.mem_of_getElem? (i := 29) rfl)) (notFace_of_selects (args := #[]) (mvT hZ (hw _ (List.mem_of_getElem? (i := 31) rfl)))) (hw _ (List.mem_of_getElem? (i := 31) rfl)) (hw _ (List.mem_of_getElem? (i := 30) rfl)) (by decide) (own_bk (rm_of l Z a0 hw b1 av (own_upd (own_upd (own_upd own_z av ((own_z av) + u1)) bv (((own_upd own_z av ((own_z av) + u1)) bv) + u2)) av (((own_upd (own_upd own_z av ((own_z av) + u1)) bv (((own_upd own_z av ((own_z av) + u1)) bv) + u2)) av) + (-tt))) h10 n0 P10_2 hav.1) hZ (hw _ (List.mem_of_getElem? (i := 32) rfl)) (hw _ (List.mem_of_getElem? (i := 2) rfl)) (by decide) (by decide)) e10 P10_0 (g := (mkF m 172 #[.val (.int p1), .val (.int p2), .val (.int p3), .val (.int p4), .val (.ref b1), .val (.int av), .val (.int bv), .val (.int u1), .val (.int u2), .val (.int (u1 + u2)), .val (.int tt), .val (.int ((u1 + u2) - tt)), .val (.int ((u1 + u2) - tt)), .val (.int vv), .val (.int ((u1 + u2) - tt))] [(.int av), (.ref b1)])) rfl (by rw [hml]; rfl) (lenOf pd_2 rfl) rfl (by show 2 * 0 + _ ≤ _; exact Nat.le_of_eq rfl) (hb hby at_172) (by decide) (by decide) (fun v12 T12 h12 L12 X12 e12 q12 => ?_)
        obtain ⟨rfl, M12, s12⟩ := q12
        replace e12 : T12.heap = h10 := e12.trans s12
        have N12 := Fr.app N10 M12
        show own_Run p e below Φ (T12.setTop (mkF m 175 #[.val (.int p1), .val (.int p2), .val (.int p3), .val (.int p4), .val (.ref b1), .val (.int av), .val (.int bv), .val (.int u1), .val (.int u2), .val (.int (u1 + u2)), .val (.int tt), .val (.int ((u1 + u2) - tt)), .val (.int ((u1 + u2) - tt)), .val (.int vv), .val (.int ((u1 + u2) - tt))] [(.int ((own_upd (own_upd (own_upd own_z av ((own_z av) + u1)) bv (((own_upd own_z av ((own_z av) + u1)) bv) + u2)) av (((own_upd (own_upd own_z av ((own_z av) + u1)) bv (((own_upd own_z av ((own_z av) + u1)) bv) + u2)) av) + (-tt))) av))]))
        refine own_go (fun t k => XS.iload X12.here hx rfl (hb hby at_175) rfl  k) ?_
        have hc177 : ((own_upd (own_upd (own_upd own_z av ((own_z av) + u1)) bv (((own_upd own_z av ((own_z av) + u1)) bv) + u2)) av (((own_upd (own_upd own_z av ((own_z av) + u1)) bv (((own_upd own_z av ((own_z av) + u1)) bv) + u2)) av) + (-tt))) av) = ((u1 + u2) - tt) := ((own_finE hc41 av).trans (if_pos rfl))
        refine own_go (fun t k => XS.icmpNo X12.here hx rfl (hb hby at_177) rfl (teq hc177).2 k) ?_
        refine own_go (fun t k => XS.aload X12.here hx rfl (hb hby at_180) rfl rfl  k) ?_
        refine own_go (fun t k => XS.iload X12.here hx rfl (hb hby at_182) rfl  k) ?_
        refine own_callV X12 hx hZ (y := (⟨"com/example/hueline/hueline/model/Degrees", "of", "(I)I"⟩ : MethodName)) (z := (⟨"com/example/hueline/hueline/model/Degrees", "of", "(I)I"⟩ : MethodName)) (W := 0) (a := b1) (argsL := [(.int bv)]) (rest := []) hown (hw _ (List.mem_of_getElem? (i := 28) rfl)) (hw _ (List.mem_of_getElem? (i := 29) rfl)) (notFace_of_selects (args := #[]) (mvT hZ (hw _ (List.mem_of_getElem? (i := 31) rfl)))) (hw _ (List.mem_of_getElem? (i := 31) rfl)) (hw _ (List.mem_of_getElem? (i := 30) rfl)) (by decide) (own_bk (rm_of l Z a0 hw b1 bv (own_upd (own_upd (own_upd own_z av ((own_z av) + u1)) bv (((own_upd own_z av ((own_z av) + u1)) bv) + u2)) av (((own_upd (own_upd own_z av ((own_z av) + u1)) bv (((own_upd own_z av ((own_z av) + u1)) bv) + u2)) av) + (-tt))) h10 n0 P10_2 hbv.1) hZ (hw _ (List.mem_of_getElem? (i := 32) rfl)) (hw _ (List.mem_of_getElem? (i := 2) rfl)) (by decide) (by decide)) e12 P10_0 (g := (mkF m 184 #[.val (.int p1), .val (.int p2), .val (.int p3), .val (.int p4), .val (.ref b1), .val (.int av), .val (.int bv), .val (.int u1), .val (.int u2), .val (.int (u1 + u2)), .val (.int tt), .val (.int ((u1 + u2) - tt)), .val (.int ((u1 + u2) - tt)), .val (.int vv), .val (.int ((u1 + u2) - tt))] [(.int bv), (.ref b1)])) rfl (by rw [hml]; rfl) (lenOf pd_2 rfl) rfl (by show 2 * 0 + _ ≤ _; exact Nat.le_of_eq rfl) (hb hby at_184) (by decide) (by decide) (fun v13 T13 h13 L13 X13 e13 q13 => ?_)
        obtain ⟨rfl, M13, s13⟩ := q13
        replace e13 : T13.heap = h10 := e13.trans s13
        have N13 := Fr.app N12 M13
        show own_Run p e below Φ (T13.setTop (mkF m 187 #[.val (.int p1), .val (.int p2), .val (.int p3), .val (.int p4), .val (.ref b1), .val (.int av), .val (.int bv), .val (.int u1), .val (.int u2), .val (.int (u1 + u2)), .val (.int tt), .val (.int ((u1 + u2) - tt)), .val (.int ((u1 + u2) - tt)), .val (.int vv), .val (.int ((u1 + u2) - tt))] [(.int ((own_upd (own_upd (own_upd own_z av ((own_z av) + u1)) bv (((own_upd own_z av ((own_z av) + u1)) bv) + u2)) av (((own_upd (own_upd own_z av ((own_z av) + u1)) bv (((own_upd own_z av ((own_z av) + u1)) bv) + u2)) av) + (-tt))) bv))]))
        refine own_go (fun t k => XS.iload X13.here hx rfl (hb hby at_187) rfl  k) ?_
        have hc189 : ((own_upd (own_upd (own_upd own_z av ((own_z av) + u1)) bv (((own_upd own_z av ((own_z av) + u1)) bv) + u2)) av (((own_upd (own_upd own_z av ((own_z av) + u1)) bv (((own_upd own_z av ((own_z av) + u1)) bv) + u2)) av) + (-tt))) bv) = ((u1 + u2) - tt) := ((own_finE hc41 bv).trans (if_pos hc41.symm))
        refine own_go (fun t k => XS.icmpNo X13.here hx rfl (hb hby at_189) rfl (teq hc189).2 k) ?_
        refine own_go (fun t k => XS.aload X13.here hx rfl (hb hby at_192) rfl rfl  k) ?_
        refine own_go (fun t k => XS.iload X13.here hx rfl (hb hby at_194) rfl  k) ?_
        refine own_callV X13 hx hZ (y := (⟨"com/example/hueline/hueline/model/Degrees", "of", "(I)I"⟩ : MethodName)) (z := (⟨"com/example/hueline/hueline/model/Degrees", "of", "(I)I"⟩ : MethodName)) (W := 0) (a := b1) (argsL := [(.int vv)]) (rest := []) hown (hw _ (List.mem_of_getElem? (i := 28) rfl)) (hw _ (List.mem_of_getElem? (i := 29) rfl)) (notFace_of_selects (args := #[]) (mvT hZ (hw _ (List.mem_of_getElem? (i := 31) rfl)))) (hw _ (List.mem_of_getElem? (i := 31) rfl)) (hw _ (List.mem_of_getElem? (i := 30) rfl)) (by decide) (own_bk (rm_of l Z a0 hw b1 vv (own_upd (own_upd (own_upd own_z av ((own_z av) + u1)) bv (((own_upd own_z av ((own_z av) + u1)) bv) + u2)) av (((own_upd (own_upd own_z av ((own_z av) + u1)) bv (((own_upd own_z av ((own_z av) + u1)) bv) + u2)) av) + (-tt))) h10 n0 P10_2 hvv) hZ (hw _ (List.mem_of_getElem? (i := 32) rfl)) (hw _ (List.mem_of_getElem? (i := 2) rfl)) (by decide) (by decide)) e13 P10_0 (g := (mkF m 196 #[.val (.int p1), .val (.int p2), .val (.int p3), .val (.int p4), .val (.ref b1), .val (.int av), .val (.int bv), .val (.int u1), .val (.int u2), .val (.int (u1 + u2)), .val (.int tt), .val (.int ((u1 + u2) - tt)), .val (.int ((u1 + u2) - tt)), .val (.int vv), .val (.int ((u1 + u2) - tt))] [(.int vv), (.ref b1)])) rfl (by rw [hml]; rfl) (lenOf pd_2 rfl) rfl (by show 2 * 0 + _ ≤ _; exact Nat.le_of_eq rfl) (hb hby at_196) (by decide) (by decide) (fun v14 T14 h14 L14 X14 e14 q14 => ?_)
        obtain ⟨rfl, M14, s14⟩ := q14
        replace e14 : T14.heap = h10 := e14.trans s14
        have N14 := Fr.app N13 M14
        show own_Run p e below Φ (T14.setTop (mkF m 199 #[.val (.int p1), .val (.int p2), .val (.int p3), .val (.int p4), .val (.ref b1), .val (.int av), .val (.int bv), .val (.int u1), .val (.int u2), .val (.int (u1 + u2)), .val (.int tt), .val (.int ((u1 + u2) - tt)), .val (.int ((u1 + u2) - tt)), .val (.int vv), .val (.int ((u1 + u2) - tt))] [(.int ((own_upd (own_upd (own_upd own_z av ((own_z av) + u1)) bv (((own_upd own_z av ((own_z av) + u1)) bv) + u2)) av (((own_upd (own_upd own_z av ((own_z av) + u1)) bv (((own_upd own_z av ((own_z av) + u1)) bv) + u2)) av) + (-tt))) vv))]))
        refine own_go (fun t k => XS.iload X14.here hx rfl (hb hby at_199) rfl  k) ?_
        have hc201 : ((own_upd (own_upd (own_upd own_z av ((own_z av) + u1)) bv (((own_upd own_z av ((own_z av) + u1)) bv) + u2)) av (((own_upd (own_upd own_z av ((own_z av) + u1)) bv (((own_upd own_z av ((own_z av) + u1)) bv) + u2)) av) + (-tt))) vv) = ((u1 + u2) - tt) := ((own_finE hc41 vv).trans (if_pos hc145))
        refine own_go (fun t k => XS.icmpNo X14.here hx rfl (hb hby at_201) rfl (teq hc201).2 k) ?_
        refine own_go (fun t k => XS.iconst X14.here hx rfl (hb hby at_204) k) ?_
        refine own_go (fun t k => XS.goto X14.here hx rfl (pc0 := 205) (pc' := 209) rfl (hb hby at_205) (by decide) (by decide) k) ?_
        subst hΦ
        exact own_retN X14 hx (t := .boolean) Bd.returns (by simp) hlk (hb hby at_209) e14 ⟨rfl, N14⟩ (by decide) (by decide)
      · refine own_go (fun t k => XS.icmpYes X10.here hx rfl (pc0 := 145) (pc' := 153) rfl (hb hby at_145) rfl (feq hc145).2 (by decide) (by decide) k) ?_
        show own_Run p e below Φ (T10.setTop (mkF m 153 #[.val (.int p1), .val (.int p2), .val (.int p3), .val (.int p4), .val (.ref b1), .val (.int av), .val (.int bv), .val (.int u1), .val (.int u2), .val (.int (u1 + u2)), .val (.int tt), .val (.int ((u1 + u2) - tt)), .val (.int ((u1 + u2) - tt)), .val (.int vv), .unset] []))
        refine own_go (fun t k => XS.iload X10.here hx rfl (hb hby at_153) rfl  k) ?_
        refine own_go (fun t k => XS.iload X10.here hx rfl (hb hby at_155) rfl  k) ?_
        have hc157 : ¬ (vv = bv) := (fun q => hc145 (q.trans hc41.symm))
        refine own_go (fun t k => XS.icmpYes X10.here hx rfl (pc0 := 157) (pc' := 165) rfl (hb hby at_157) rfl (feq hc157).2 (by decide) (by decide) k) ?_
        refine own_go (fun t k => XS.iconst X10.here hx rfl (hb hby at_165) k) ?_
        refine own_go (fun t k => XS.istore X10.here hx rfl (hb hby at_166) rfl (l' := #[.val (.int p1), .val (.int p2), .val (.int p3), .val (.int p4), .val (.ref b1), .val (.int av), .val (.int bv), .val (.int u1), .val (.int u2), .val (.int (u1 + u2)), .val (.int tt), .val (.int ((u1 + u2) - tt)), .val (.int ((u1 + u2) - tt)), .val (.int vv), .val (.int (0 : Int32))]) rfl k) ?_
        show own_Run p e below Φ (T10.setTop (mkF m 168 #[.val (.int p1), .val (.int p2), .val (.int p3), .val (.int p4), .val (.ref b1), .val (.int av), .val (.int bv), .val (.int u1), .val (.int u2), .val (.int (u1 + u2)), .val (.int tt), .val (.int ((u1 + u2) - tt)), .val (.int ((u1 + u2) - tt)), .val (.int vv), .val (.int (0 : Int32))] []))
        refine own_go (fun t k => XS.aload X10.here hx rfl (hb hby at_168) rfl rfl  k) ?_
        refine own_go (fun t k => XS.iload X10.here hx rfl (hb hby at_170) rfl  k) ?_
        refine own_callV X10 hx hZ (y := (⟨"com/example/hueline/hueline/model/Degrees", "of", "(I)I"⟩ : MethodName)) (z := (⟨"com/example/hueline/hueline/model/Degrees", "of", "(I)I"⟩ : MethodName)) (W := 0) (a := b1) (argsL := [(.int av)]) (rest := []) hown (hw _ (List.mem_of_getElem? (i := 28) rfl)) (hw _ (List.mem_of_getElem? (i := 29) rfl)) (notFace_of_selects (args := #[]) (mvT hZ (hw _ (List.mem_of_getElem? (i := 31) rfl)))) (hw _ (List.mem_of_getElem? (i := 31) rfl)) (hw _ (List.mem_of_getElem? (i := 30) rfl)) (by decide) (own_bk (rm_of l Z a0 hw b1 av (own_upd (own_upd (own_upd own_z av ((own_z av) + u1)) bv (((own_upd own_z av ((own_z av) + u1)) bv) + u2)) av (((own_upd (own_upd own_z av ((own_z av) + u1)) bv (((own_upd own_z av ((own_z av) + u1)) bv) + u2)) av) + (-tt))) h10 n0 P10_2 hav.1) hZ (hw _ (List.mem_of_getElem? (i := 32) rfl)) (hw _ (List.mem_of_getElem? (i := 2) rfl)) (by decide) (by decide)) e10 P10_0 (g := (mkF m 172 #[.val (.int p1), .val (.int p2), .val (.int p3), .val (.int p4), .val (.ref b1), .val (.int av), .val (.int bv), .val (.int u1), .val (.int u2), .val (.int (u1 + u2)), .val (.int tt), .val (.int ((u1 + u2) - tt)), .val (.int ((u1 + u2) - tt)), .val (.int vv), .val (.int (0 : Int32))] [(.int av), (.ref b1)])) rfl (by rw [hml]; rfl) (lenOf pd_2 rfl) rfl (by show 2 * 0 + _ ≤ _; exact Nat.le_of_eq rfl) (hb hby at_172) (by decide) (by decide) (fun v15 T15 h15 L15 X15 e15 q15 => ?_)
        obtain ⟨rfl, M15, s15⟩ := q15
        replace e15 : T15.heap = h10 := e15.trans s15
        have N15 := Fr.app N10 M15
        refine own_go (fun t k => XS.iload X15.here hx rfl (hb hby at_175) rfl  k) ?_
        have hc177 : ((own_upd (own_upd (own_upd own_z av ((own_z av) + u1)) bv (((own_upd own_z av ((own_z av) + u1)) bv) + u2)) av (((own_upd (own_upd own_z av ((own_z av) + u1)) bv (((own_upd own_z av ((own_z av) + u1)) bv) + u2)) av) + (-tt))) av) = ((u1 + u2) - tt) := ((own_finE hc41 av).trans (if_pos rfl))
        refine own_go (fun t k => XS.icmpNo X15.here hx rfl (hb hby at_177) rfl (teq hc177).2 k) ?_
        show own_Run p e below Φ (T15.setTop (mkF m 180 #[.val (.int p1), .val (.int p2), .val (.int p3), .val (.int p4), .val (.ref b1), .val (.int av), .val (.int bv), .val (.int u1), .val (.int u2), .val (.int (u1 + u2)), .val (.int tt), .val (.int ((u1 + u2) - tt)), .val (.int ((u1 + u2) - tt)), .val (.int vv), .val (.int (0 : Int32))] []))
        refine own_go (fun t k => XS.aload X15.here hx rfl (hb hby at_180) rfl rfl  k) ?_
        refine own_go (fun t k => XS.iload X15.here hx rfl (hb hby at_182) rfl  k) ?_
        refine own_callV X15 hx hZ (y := (⟨"com/example/hueline/hueline/model/Degrees", "of", "(I)I"⟩ : MethodName)) (z := (⟨"com/example/hueline/hueline/model/Degrees", "of", "(I)I"⟩ : MethodName)) (W := 0) (a := b1) (argsL := [(.int bv)]) (rest := []) hown (hw _ (List.mem_of_getElem? (i := 28) rfl)) (hw _ (List.mem_of_getElem? (i := 29) rfl)) (notFace_of_selects (args := #[]) (mvT hZ (hw _ (List.mem_of_getElem? (i := 31) rfl)))) (hw _ (List.mem_of_getElem? (i := 31) rfl)) (hw _ (List.mem_of_getElem? (i := 30) rfl)) (by decide) (own_bk (rm_of l Z a0 hw b1 bv (own_upd (own_upd (own_upd own_z av ((own_z av) + u1)) bv (((own_upd own_z av ((own_z av) + u1)) bv) + u2)) av (((own_upd (own_upd own_z av ((own_z av) + u1)) bv (((own_upd own_z av ((own_z av) + u1)) bv) + u2)) av) + (-tt))) h10 n0 P10_2 hbv.1) hZ (hw _ (List.mem_of_getElem? (i := 32) rfl)) (hw _ (List.mem_of_getElem? (i := 2) rfl)) (by decide) (by decide)) e15 P10_0 (g := (mkF m 184 #[.val (.int p1), .val (.int p2), .val (.int p3), .val (.int p4), .val (.ref b1), .val (.int av), .val (.int bv), .val (.int u1), .val (.int u2), .val (.int (u1 + u2)), .val (.int tt), .val (.int ((u1 + u2) - tt)), .val (.int ((u1 + u2) - tt)), .val (.int vv), .val (.int (0 : Int32))] [(.int bv), (.ref b1)])) rfl (by rw [hml]; rfl) (lenOf pd_2 rfl) rfl (by show 2 * 0 + _ ≤ _; exact Nat.le_of_eq rfl) (hb hby at_184) (by decide) (by decide) (fun v16 T16 h16 L16 X16 e16 q16 => ?_)
        obtain ⟨rfl, M16, s16⟩ := q16
        replace e16 : T16.heap = h10 := e16.trans s16
        have N16 := Fr.app N15 M16
        refine own_go (fun t k => XS.iload X16.here hx rfl (hb hby at_187) rfl  k) ?_
        have hc189 : ((own_upd (own_upd (own_upd own_z av ((own_z av) + u1)) bv (((own_upd own_z av ((own_z av) + u1)) bv) + u2)) av (((own_upd (own_upd own_z av ((own_z av) + u1)) bv (((own_upd own_z av ((own_z av) + u1)) bv) + u2)) av) + (-tt))) bv) = ((u1 + u2) - tt) := ((own_finE hc41 bv).trans (if_pos hc41.symm))
        refine own_go (fun t k => XS.icmpNo X16.here hx rfl (hb hby at_189) rfl (teq hc189).2 k) ?_
        show own_Run p e below Φ (T16.setTop (mkF m 192 #[.val (.int p1), .val (.int p2), .val (.int p3), .val (.int p4), .val (.ref b1), .val (.int av), .val (.int bv), .val (.int u1), .val (.int u2), .val (.int (u1 + u2)), .val (.int tt), .val (.int ((u1 + u2) - tt)), .val (.int ((u1 + u2) - tt)), .val (.int vv), .val (.int (0 : Int32))] []))
        refine own_go (fun t k => XS.aload X16.here hx rfl (hb hby at_192) rfl rfl  k) ?_
        refine own_go (fun t k => XS.iload X16.here hx rfl (hb hby at_194) rfl  k) ?_
        refine own_callV X16 hx hZ (y := (⟨"com/example/hueline/hueline/model/Degrees", "of", "(I)I"⟩ : MethodName)) (z := (⟨"com/example/hueline/hueline/model/Degrees", "of", "(I)I"⟩ : MethodName)) (W := 0) (a := b1) (argsL := [(.int vv)]) (rest := []) hown (hw _ (List.mem_of_getElem? (i := 28) rfl)) (hw _ (List.mem_of_getElem? (i := 29) rfl)) (notFace_of_selects (args := #[]) (mvT hZ (hw _ (List.mem_of_getElem? (i := 31) rfl)))) (hw _ (List.mem_of_getElem? (i := 31) rfl)) (hw _ (List.mem_of_getElem? (i := 30) rfl)) (by decide) (own_bk (rm_of l Z a0 hw b1 vv (own_upd (own_upd (own_upd own_z av ((own_z av) + u1)) bv (((own_upd own_z av ((own_z av) + u1)) bv) + u2)) av (((own_upd (own_upd own_z av ((own_z av) + u1)) bv (((own_upd own_z av ((own_z av) + u1)) bv) + u2)) av) + (-tt))) h10 n0 P10_2 hvv) hZ (hw _ (List.mem_of_getElem? (i := 32) rfl)) (hw _ (List.mem_of_getElem? (i := 2) rfl)) (by decide) (by decide)) e16 P10_0 (g := (mkF m 196 #[.val (.int p1), .val (.int p2), .val (.int p3), .val (.int p4), .val (.ref b1), .val (.int av), .val (.int bv), .val (.int u1), .val (.int u2), .val (.int (u1 + u2)), .val (.int tt), .val (.int ((u1 + u2) - tt)), .val (.int ((u1 + u2) - tt)), .val (.int vv), .val (.int (0 : Int32))] [(.int vv), (.ref b1)])) rfl (by rw [hml]; rfl) (lenOf pd_2 rfl) rfl (by show 2 * 0 + _ ≤ _; exact Nat.le_of_eq rfl) (hb hby at_196) (by decide) (by decide) (fun v17 T17 h17 L17 X17 e17 q17 => ?_)
        obtain ⟨rfl, M17, s17⟩ := q17
        replace e17 : T17.heap = h10 := e17.trans s17
        have N17 := Fr.app N16 M17
        refine own_go (fun t k => XS.iload X17.here hx rfl (hb hby at_199) rfl  k) ?_
        have hc201 : ((own_upd (own_upd (own_upd own_z av ((own_z av) + u1)) bv (((own_upd own_z av ((own_z av) + u1)) bv) + u2)) av (((own_upd (own_upd own_z av ((own_z av) + u1)) bv (((own_upd own_z av ((own_z av) + u1)) bv) + u2)) av) + (-tt))) vv) = (0 : Int32) := ((own_finE hc41 vv).trans (if_neg hc145))
        refine own_go (fun t k => XS.icmpNo X17.here hx rfl (hb hby at_201) rfl (teq hc201).2 k) ?_
        show own_Run p e below Φ (T17.setTop (mkF m 204 #[.val (.int p1), .val (.int p2), .val (.int p3), .val (.int p4), .val (.ref b1), .val (.int av), .val (.int bv), .val (.int u1), .val (.int u2), .val (.int (u1 + u2)), .val (.int tt), .val (.int ((u1 + u2) - tt)), .val (.int ((u1 + u2) - tt)), .val (.int vv), .val (.int (0 : Int32))] []))
        refine own_go (fun t k => XS.iconst X17.here hx rfl (hb hby at_204) k) ?_
        refine own_go (fun t k => XS.goto X17.here hx rfl (pc0 := 205) (pc' := 209) rfl (hb hby at_205) (by decide) (by decide) k) ?_
        subst hΦ
        exact own_retN X17 hx (t := .boolean) Bd.returns (by simp) hlk (hb hby at_209) e17 ⟨rfl, N17⟩ (by decide) (by decide)
    show own_Run p e below Φ (T10.setTop (mkF m 121 #[.val (.int p1), .val (.int p2), .val (.int p3), .val (.int p4), .val (.ref b1), .val (.int av), .val (.int bv), .val (.int u1), .val (.int u2), .val (.int (u1 + u2)), .val (.int tt), .val (.int ((u1 + u2) - tt)), .val (.int ((u1 + u2) - tt)), .unset, .unset] []))
    refine own_go (fun t k => XS.iloadN X10.here hx rfl (hb hby at_121) rfl  k) ?_
    refine own_go (fun t k => XS.iconst X10.here hx rfl (hb hby at_122) k) ?_
    refine own_go (fun t k => XS.iand X10.here hx rfl (hb hby at_123) rfl k) ?_
    show own_Run p e below Φ (T10.setTop (mkF m 124 #[.val (.int p1), .val (.int p2), .val (.int p3), .val (.int p4), .val (.ref b1), .val (.int av), .val (.int bv), .val (.int u1), .val (.int u2), .val (.int (u1 + u2)), .val (.int tt), .val (.int ((u1 + u2) - tt)), .val (.int ((u1 + u2) - tt)), .unset, .unset] [(.int (p4 &&& (1 : Int32)))]))
    by_cases hc124 : (p4 &&& (1 : Int32)) = (0 : Int32)
    · refine own_go (fun t k => XS.ifNo X10.here hx rfl (hb hby at_124) rfl ((if0 _ _).trans (teq hc124).2) k) ?_
      refine own_go (fun t k => XS.iloadN X10.here hx rfl (hb hby at_127) rfl  k) ?_
      refine own_go (fun t k => XS.iconst X10.here hx rfl (hb hby at_128) k) ?_
      refine own_go (fun t k => XS.iushr X10.here hx rfl (hb hby at_129) rfl k) ?_
      refine own_go (fun t k => XS.bipush X10.here hx rfl (hb hby at_130) k) ?_
      show own_Run p e below Φ (T10.setTop (mkF m 132 #[.val (.int p1), .val (.int p2), .val (.int p3), .val (.int p4), .val (.ref b1), .val (.int av), .val (.int bv), .val (.int u1), .val (.int u2), .val (.int (u1 + u2)), .val (.int tt), .val (.int ((u1 + u2) - tt)), .val (.int ((u1 + u2) - tt)), .unset, .unset] [(.int (63 : Int32)), (.int ((p4.toUInt32 >>> ((1 : Int32) &&& 31).toUInt32).toInt32))]))
      refine own_go (fun t k => XS.iand X10.here hx rfl (hb hby at_132) rfl k) ?_
      refine own_go (fun t k => XS.goto X10.here hx rfl (pc0 := 133) (pc' := 139) rfl (hb hby at_133) (by decide) (by decide) k) ?_
      exact J139_11 (((p4.toUInt32 >>> ((1 : Int32) &&& 31).toUInt32).toInt32) &&& (63 : Int32)) (own_nnn _)
    · refine own_go (fun t k => XS.ifYes X10.here hx rfl (pc0 := 124) (pc' := 136) rfl (hb hby at_124) rfl ((if0 _ _).trans (feq hc124).2) (by decide) (by decide) k) ?_
      refine own_go (fun t k => XS.iloadN X10.here hx rfl (hb hby at_136) rfl  k) ?_
      refine own_go (fun t k => XS.iconst X10.here hx rfl (hb hby at_137) k) ?_
      refine own_go (fun t k => XS.iushr X10.here hx rfl (hb hby at_138) rfl k) ?_
      exact J139_11 ((p4.toUInt32 >>> ((1 : Int32) &&& 31).toUInt32).toInt32) (own_nnu _)
  · refine own_go (fun t k => XS.icmpYes X6.here hx rfl (pc0 := 41) (pc' := 49) rfl (hb hby at_41) rfl (feq hc41).2 (by decide) (by decide) k) ?_
    show own_Run p e below Φ (T6.setTop (mkF m 49 #[.val (.int p1), .val (.int p2), .val (.int p3), .val (.int p4), .val (.ref b1), .val (.int av), .val (.int bv), .val (.int u1), .val (.int u2), .unset, .unset, .unset, .unset, .unset, .unset] [(.int u1)]))
    refine own_go (fun t k => XS.iconst X6.here hx rfl (hb hby at_49) k) ?_
    refine own_go (fun t k => XS.iadd X6.here hx rfl (hb hby at_50) rfl k) ?_
    refine own_go (fun t k => XS.istore X6.here hx rfl (hb hby at_51) rfl (l' := #[.val (.int p1), .val (.int p2), .val (.int p3), .val (.int p4), .val (.ref b1), .val (.int av), .val (.int bv), .val (.int u1), .val (.int u2), .val (.int (u1 + (0 : Int32))), .unset, .unset, .unset, .unset, .unset]) rfl k) ?_
    refine own_go (fun t k => XS.iloadN X6.here hx rfl (hb hby at_53) rfl  k) ?_
    refine own_go (fun t k => XS.bipush X6.here hx rfl (hb hby at_54) k) ?_
    show own_Run p e below Φ (T6.setTop (mkF m 56 #[.val (.int p1), .val (.int p2), .val (.int p3), .val (.int p4), .val (.ref b1), .val (.int av), .val (.int bv), .val (.int u1), .val (.int u2), .val (.int (u1 + (0 : Int32))), .unset, .unset, .unset, .unset, .unset] [(.int (8 : Int32)), (.int p3)]))
    refine own_go (fun t k => XS.iushr X6.here hx rfl (hb hby at_56) rfl k) ?_
    refine own_go (fun t k => XS.bipush X6.here hx rfl (hb hby at_57) k) ?_
    refine own_go (fun t k => XS.iand X6.here hx rfl (hb hby at_59) rfl k) ?_
    refine own_go (fun t k => XS.iload X6.here hx rfl (hb hby at_60) rfl  k) ?_
    refine own_callS X6 hx hZ (y := (⟨"java/lang/Math", "min", "(II)I"⟩ : MethodName)) (W := 0) (argsL := [(.int (((p3.toUInt32 >>> ((8 : Int32) &&& 31).toUInt32).toInt32) &&& (31 : Int32))), (.int (u1 + (0 : Int32)))]) (rest := []) hown (hw _ (List.mem_of_getElem? (i := 14) rfl)) (hw _ (List.mem_of_getElem? (i := 15) rfl)) (hw _ (List.mem_of_getElem? (i := 16) rfl)) (hw _ (List.mem_of_getElem? (i := 17) rfl)) (by decide) (own_bk (rm_mni l Z a0 hw (((p3.toUInt32 >>> ((8 : Int32) &&& 31).toUInt32).toInt32) &&& (31 : Int32)) (u1 + (0 : Int32)) h6 n0 ) hZ (hw _ (List.mem_of_getElem? (i := 17) rfl)) (hw _ (List.mem_of_getElem? (i := 16) rfl)) (by decide) (by decide)) e6 (g := (mkF m 62 #[.val (.int p1), .val (.int p2), .val (.int p3), .val (.int p4), .val (.ref b1), .val (.int av), .val (.int bv), .val (.int u1), .val (.int u2), .val (.int (u1 + (0 : Int32))), .unset, .unset, .unset, .unset, .unset] [(.int (u1 + (0 : Int32))), (.int (((p3.toUInt32 >>> ((8 : Int32) &&& 31).toUInt32).toInt32) &&& (31 : Int32)))])) rfl (by rw [hml]; rfl) (lenOf pd_1 rfl) rfl (by show 2 * 0 + _ ≤ _; exact Nat.le_of_eq rfl) (hb hby at_62) (by decide) (by decide) (fun v18 T18 h18 L18 X18 e18 q18 => ?_)
    obtain ⟨rfl, M18, s18⟩ := q18
    replace e18 : T18.heap = h6 := e18.trans s18
    have N18 := Fr.app N6 M18
    show own_Run p e below Φ (T18.setTop (mkF m 65 #[.val (.int p1), .val (.int p2), .val (.int p3), .val (.int p4), .val (.ref b1), .val (.int av), .val (.int bv), .val (.int u1), .val (.int u2), .val (.int (u1 + (0 : Int32))), .unset, .unset, .unset, .unset, .unset] [(.int (own_mini (((p3.toUInt32 >>> ((8 : Int32) &&& 31).toUInt32).toInt32) &&& (31 : Int32)) (u1 + (0 : Int32))))]))
    refine own_go (fun t k => XS.istore X18.here hx rfl (hb hby at_65) rfl (l' := #[.val (.int p1), .val (.int p2), .val (.int p3), .val (.int p4), .val (.ref b1), .val (.int av), .val (.int bv), .val (.int u1), .val (.int u2), .val (.int (u1 + (0 : Int32))), .val (.int (own_mini (((p3.toUInt32 >>> ((8 : Int32) &&& 31).toUInt32).toInt32) &&& (31 : Int32)) (u1 + (0 : Int32)))), .unset, .unset, .unset, .unset]) rfl k) ?_
    show own_Run p e below Φ (T18.setTop (mkF m 67 #[.val (.int p1), .val (.int p2), .val (.int p3), .val (.int p4), .val (.ref b1), .val (.int av), .val (.int bv), .val (.int u1), .val (.int u2), .val (.int (u1 + (0 : Int32))), .val (.int (own_mini (((p3.toUInt32 >>> ((8 : Int32) &&& 31).toUInt32).toInt32) &&& (31 : Int32)) (u1 + (0 : Int32)))), .unset, .unset, .unset, .unset] []))
    have how2 : (u1 + (0 : Int32)).toInt = u1.toInt := by rw [Int32.add_zero]
    have htt := own_mi (a := (((p3.toUInt32 >>> ((8 : Int32) &&& 31).toUInt32).toInt32) &&& (31 : Int32))) (b := (u1 + (0 : Int32))) (own_m31 _) (by omega)
    generalize ett : (own_mini (((p3.toUInt32 >>> ((8 : Int32) &&& 31).toUInt32).toInt32) &&& (31 : Int32)) (u1 + (0 : Int32))) = tt at htt ⊢
    show own_Run p e below Φ (T18.setTop (mkF m 67 #[.val (.int p1), .val (.int p2), .val (.int p3), .val (.int p4), .val (.ref b1), .val (.int av), .val (.int bv), .val (.int u1), .val (.int u2), .val (.int (u1 + (0 : Int32))), .val (.int tt), .unset, .unset, .unset, .unset] []))
    refine own_go (fun t k => XS.aload X18.here hx rfl (hb hby at_67) rfl rfl  k) ?_
    refine own_go (fun t k => XS.iload X18.here hx rfl (hb hby at_69) rfl  k) ?_
    refine own_go (fun t k => XS.iload X18.here hx rfl (hb hby at_71) rfl  k) ?_
    refine own_callV X18 hx hZ (y := (⟨"com/example/hueline/hueline/model/Degrees", "add", "(II)I"⟩ : MethodName)) (z := (⟨"com/example/hueline/hueline/model/Degrees", "add", "(II)I"⟩ : MethodName)) (W := 0) (a := b1) (argsL := [(.int av), (.int u1)]) (rest := []) hown (hw _ (List.mem_of_getElem? (i := 18) rfl)) (hw _ (List.mem_of_getElem? (i := 19) rfl)) (notFace_of_selects (args := #[]) (mvT hZ (hw _ (List.mem_of_getElem? (i := 21) rfl)))) (hw _ (List.mem_of_getElem? (i := 21) rfl)) (hw _ (List.mem_of_getElem? (i := 20) rfl)) (by decide) (own_bk (rm_add l Z a0 hw b1 av u1 own_z h6 n0 P6_2 P6_1 hav (by rw [own_ze]; omega)) hZ (hw _ (List.mem_of_getElem? (i := 22) rfl)) (hw _ (List.mem_of_getElem? (i := 2) rfl)) (by decide) (by decide)) e18 P6_0 (g := (mkF m 73 #[.val (.int p1), .val (.int p2), .val (.int p3), .val (.int p4), .val (.ref b1), .val (.int av), .val (.int bv), .val (.int u1), .val (.int u2), .val (.int (u1 + (0 : Int32))), .val (.int tt), .unset, .unset, .unset, .unset] [(.int u1), (.int av), (.ref b1)])) rfl (by rw [hml]; rfl) (lenOf pd_1 rfl) rfl (by show 2 * 0 + _ ≤ _; exact Nat.le_of_eq rfl) (hb hby at_73) (by decide) (by decide) (fun v19 T19 h19 L19 X19 e19 q19 => ?_)
    obtain ⟨rfl, M19, -, P19_0, P19_1, P19_2⟩ := q19
    have N19 := Fr.app N18 M19
    refine own_go (fun t k => XS.pop X19.here hx rfl (hb hby at_76) rfl rfl k) ?_
    show own_Run p e below Φ (T19.setTop (mkF m 77 #[.val (.int p1), .val (.int p2), .val (.int p3), .val (.int p4), .val (.ref b1), .val (.int av), .val (.int bv), .val (.int u1), .val (.int u2), .val (.int (u1 + (0 : Int32))), .val (.int tt), .unset, .unset, .unset, .unset] []))
    refine own_go (fun t k => XS.aload X19.here hx rfl (hb hby at_77) rfl rfl  k) ?_
    refine own_go (fun t k => XS.iload X19.here hx rfl (hb hby at_79) rfl  k) ?_
    refine own_go (fun t k => XS.iload X19.here hx rfl (hb hby at_81) rfl  k) ?_
    refine own_callV X19 hx hZ (y := (⟨"com/example/hueline/hueline/model/Degrees", "add", "(II)I"⟩ : MethodName)) (z := (⟨"com/example/hueline/hueline/model/Degrees", "add", "(II)I"⟩ : MethodName)) (W := 0) (a := b1) (argsL := [(.int bv), (.int u2)]) (rest := []) hown (hw _ (List.mem_of_getElem? (i := 18) rfl)) (hw _ (List.mem_of_getElem? (i := 19) rfl)) (notFace_of_selects (args := #[]) (mvT hZ (hw _ (List.mem_of_getElem? (i := 21) rfl)))) (hw _ (List.mem_of_getElem? (i := 21) rfl)) (hw _ (List.mem_of_getElem? (i := 20) rfl)) (by decide) (own_bk (rm_add l Z a0 hw b1 bv u2 (own_upd own_z av ((own_z av) + u1)) h19 n0 P19_2 P19_1 hbv (by rw [own_n (fun q => hc41 q.symm), own_ze]; omega)) hZ (hw _ (List.mem_of_getElem? (i := 22) rfl)) (hw _ (List.mem_of_getElem? (i := 2) rfl)) (by decide) (by decide)) e19 P19_0 (g := (mkF m 83 #[.val (.int p1), .val (.int p2), .val (.int p3), .val (.int p4), .val (.ref b1), .val (.int av), .val (.int bv), .val (.int u1), .val (.int u2), .val (.int (u1 + (0 : Int32))), .val (.int tt), .unset, .unset, .unset, .unset] [(.int u2), (.int bv), (.ref b1)])) rfl (by rw [hml]; rfl) (lenOf pd_1 rfl) rfl (by show 2 * 0 + _ ≤ _; exact Nat.le_of_eq rfl) (hb hby at_83) (by decide) (by decide) (fun v20 T20 h20 L20 X20 e20 q20 => ?_)
    obtain ⟨rfl, M20, -, P20_0, P20_1, P20_2⟩ := q20
    have N20 := Fr.app N19 M20
    refine own_go (fun t k => XS.pop X20.here hx rfl (hb hby at_86) rfl rfl k) ?_
    show own_Run p e below Φ (T20.setTop (mkF m 87 #[.val (.int p1), .val (.int p2), .val (.int p3), .val (.int p4), .val (.ref b1), .val (.int av), .val (.int bv), .val (.int u1), .val (.int u2), .val (.int (u1 + (0 : Int32))), .val (.int tt), .unset, .unset, .unset, .unset] []))
    refine own_go (fun t k => XS.aload X20.here hx rfl (hb hby at_87) rfl rfl  k) ?_
    refine own_go (fun t k => XS.iload X20.here hx rfl (hb hby at_89) rfl  k) ?_
    refine own_go (fun t k => XS.iload X20.here hx rfl (hb hby at_91) rfl  k) ?_
    refine own_go (fun t k => XS.ineg X20.here hx rfl (hb hby at_93) rfl k) ?_
    refine own_callV X20 hx hZ (y := (⟨"com/example/hueline/hueline/model/Degrees", "add", "(II)I"⟩ : MethodName)) (z := (⟨"com/example/hueline/hueline/model/Degrees", "add", "(II)I"⟩ : MethodName)) (W := 0) (a := b1) (argsL := [(.int av), (.int (-tt))]) (rest := []) hown (hw _ (List.mem_of_getElem? (i := 18) rfl)) (hw _ (List.mem_of_getElem? (i := 19) rfl)) (notFace_of_selects (args := #[]) (mvT hZ (hw _ (List.mem_of_getElem? (i := 21) rfl)))) (hw _ (List.mem_of_getElem? (i := 21) rfl)) (hw _ (List.mem_of_getElem? (i := 20) rfl)) (by decide) (own_bk (rm_add l Z a0 hw b1 av (-tt) (own_upd (own_upd own_z av ((own_z av) + u1)) bv (((own_upd own_z av ((own_z av) + u1)) bv) + u2)) h20 n0 P20_2 P20_1 hav (by rw [own_n hc41, own_e rfl, own_ze, own_ad (by rw [own_ng (by omega)]; omega), own_ng (by omega)]; omega)) hZ (hw _ (List.mem_of_getElem? (i := 22) rfl)) (hw _ (List.mem_of_getElem? (i := 2) rfl)) (by decide) (by decide)) e20 P20_0 (g := (mkF m 94 #[.val (.int p1), .val (.int p2), .val (.int p3), .val (.int p4), .val (.ref b1), .val (.int av), .val (.int bv), .val (.int u1), .val (.int u2), .val (.int (u1 + (0 : Int32))), .val (.int tt), .unset, .unset, .unset, .unset] [(.int (-tt)), (.int av), (.ref b1)])) rfl (by rw [hml]; rfl) (lenOf pd_1 rfl) rfl (by show 2 * 0 + _ ≤ _; exact Nat.le_of_eq rfl) (hb hby at_94) (by decide) (by decide) (fun v21 T21 h21 L21 X21 e21 q21 => ?_)
    obtain ⟨rfl, M21, -, P21_0, P21_1, P21_2⟩ := q21
    have N21 := Fr.app N20 M21
    show own_Run p e below Φ (T21.setTop (mkF m 97 #[.val (.int p1), .val (.int p2), .val (.int p3), .val (.int p4), .val (.ref b1), .val (.int av), .val (.int bv), .val (.int u1), .val (.int u2), .val (.int (u1 + (0 : Int32))), .val (.int tt), .unset, .unset, .unset, .unset] [(.int (((own_upd (own_upd own_z av ((own_z av) + u1)) bv (((own_upd own_z av ((own_z av) + u1)) bv) + u2)) av) + (-tt)))]))
    refine own_go (fun t k => XS.pop X21.here hx rfl (hb hby at_97) rfl rfl k) ?_
    refine own_go (fun t k => XS.iload X21.here hx rfl (hb hby at_98) rfl  k) ?_
    refine own_go (fun t k => XS.iload X21.here hx rfl (hb hby at_100) rfl  k) ?_
    refine own_go (fun t k => XS.isub X21.here hx rfl (hb hby at_102) rfl k) ?_
    refine own_go (fun t k => XS.istore X21.here hx rfl (hb hby at_103) rfl (l' := #[.val (.int p1), .val (.int p2), .val (.int p3), .val (.int p4), .val (.ref b1), .val (.int av), .val (.int bv), .val (.int u1), .val (.int u2), .val (.int (u1 + (0 : Int32))), .val (.int tt), .val (.int ((u1 + (0 : Int32)) - tt)), .unset, .unset, .unset]) rfl k) ?_
    show own_Run p e below Φ (T21.setTop (mkF m 105 #[.val (.int p1), .val (.int p2), .val (.int p3), .val (.int p4), .val (.ref b1), .val (.int av), .val (.int bv), .val (.int u1), .val (.int u2), .val (.int (u1 + (0 : Int32))), .val (.int tt), .val (.int ((u1 + (0 : Int32)) - tt)), .unset, .unset, .unset] []))
    refine own_go (fun t k => XS.iload X21.here hx rfl (hb hby at_105) rfl  k) ?_
    refine own_go (fun t k => XS.iload X21.here hx rfl (hb hby at_107) rfl  k) ?_
    refine own_go (fun t k => XS.icmpYes X21.here hx rfl (pc0 := 109) (pc' := 117) rfl (hb hby at_109) rfl (feq hc41).2 (by decide) (by decide) k) ?_
    refine own_go (fun t k => XS.iload X21.here hx rfl (hb hby at_117) rfl  k) ?_
    refine own_go (fun t k => XS.istore X21.here hx rfl (hb hby at_119) rfl (l' := #[.val (.int p1), .val (.int p2), .val (.int p3), .val (.int p4), .val (.ref b1), .val (.int av), .val (.int bv), .val (.int u1), .val (.int u2), .val (.int (u1 + (0 : Int32))), .val (.int tt), .val (.int ((u1 + (0 : Int32)) - tt)), .val (.int u2), .unset, .unset]) rfl k) ?_
    show own_Run p e below Φ (T21.setTop (mkF m 121 #[.val (.int p1), .val (.int p2), .val (.int p3), .val (.int p4), .val (.ref b1), .val (.int av), .val (.int bv), .val (.int u1), .val (.int u2), .val (.int (u1 + (0 : Int32))), .val (.int tt), .val (.int ((u1 + (0 : Int32)) - tt)), .val (.int u2), .unset, .unset] []))
    have J139_22 : ∀ (vv : Int32), (0 ≤ vv.toInt) → own_Run p e below Φ (T21.setTop (mkF m 139 #[.val (.int p1), .val (.int p2), .val (.int p3), .val (.int p4), .val (.ref b1), .val (.int av), .val (.int bv), .val (.int u1), .val (.int u2), .val (.int (u1 + (0 : Int32))), .val (.int tt), .val (.int ((u1 + (0 : Int32)) - tt)), .val (.int u2), .unset, .unset] [(.int vv)])) := by
      intro vv hvv
      show own_Run p e below Φ (T21.setTop (mkF m 139 #[.val (.int p1), .val (.int p2), .val (.int p3), .val (.int p4), .val (.ref b1), .val (.int av), .val (.int bv), .val (.int u1), .val (.int u2), .val (.int (u1 + (0 : Int32))), .val (.int tt), .val (.int ((u1 + (0 : Int32)) - tt)), .val (.int u2), .unset, .unset] [(.int vv)]))
      refine own_go (fun t k => XS.istore X21.here hx rfl (hb hby at_139) rfl (l' := #[.val (.int p1), .val (.int p2), .val (.int p3), .val (.int p4), .val (.ref b1), .val (.int av), .val (.int bv), .val (.int u1), .val (.int u2), .val (.int (u1 + (0 : Int32))), .val (.int tt), .val (.int ((u1 + (0 : Int32)) - tt)), .val (.int u2), .val (.int vv), .unset]) rfl k) ?_
      refine own_go (fun t k => XS.iload X21.here hx rfl (hb hby at_141) rfl  k) ?_
      refine own_go (fun t k => XS.iload X21.here hx rfl (hb hby at_143) rfl  k) ?_
      by_cases hc145 : vv = av
      · refine own_go (fun t k => XS.icmpNo X21.here hx rfl (hb hby at_145) rfl (teq hc145).2 k) ?_
        refine own_go (fun t k => XS.iload X21.here hx rfl (hb hby at_148) rfl  k) ?_
        show own_Run p e below Φ (T21.setTop (mkF m 150 #[.val (.int p1), .val (.int p2), .val (.int p3), .val (.int p4), .val (.ref b1), .val (.int av), .val (.int bv), .val (.int u1), .val (.int u2), .val (.int (u1 + (0 : Int32))), .val (.int tt), .val (.int ((u1 + (0 : Int32)) - tt)), .val (.int u2), .val (.int vv), .unset] [(.int ((u1 + (0 : Int32)) - tt))]))
        refine own_go (fun t k => XS.goto X21.here hx rfl (pc0 := 150) (pc' := 166) rfl (hb hby at_150) (by decide) (by decide) k) ?_
        refine own_go (fun t k => XS.istore X21.here hx rfl (hb hby at_166) rfl (l' := #[.val (.int p1), .val (.int p2), .val (.int p3), .val (.int p4), .val (.ref b1), .val (.int av), .val (.int bv), .val (.int u1), .val (.int u2), .val (.int (u1 + (0 : Int32))), .val (.int tt), .val (.int ((u1 + (0 : Int32)) - tt)), .val (.int u2), .val (.int vv), .val (.int ((u1 + (0 : Int32)) - tt))]) rfl k) ?_
        refine own_go (fun t k => XS.aload X21.here hx rfl (hb hby at_168) rfl rfl  k) ?_
        refine own_go (fun t k => XS.iload X21.here hx rfl (hb hby at_170) rfl  k) ?_
        refine own_callV X21 hx hZ (y := (⟨"com/example/hueline/hueline/model/Degrees", "of", "(I)I"⟩ : MethodName)) (z := (⟨"com/example/hueline/hueline/model/Degrees", "of", "(I)I"⟩ : MethodName)) (W := 0) (a := b1) (argsL := [(.int av)]) (rest := []) hown (hw _ (List.mem_of_getElem? (i := 28) rfl)) (hw _ (List.mem_of_getElem? (i := 29) rfl)) (notFace_of_selects (args := #[]) (mvT hZ (hw _ (List.mem_of_getElem? (i := 31) rfl)))) (hw _ (List.mem_of_getElem? (i := 31) rfl)) (hw _ (List.mem_of_getElem? (i := 30) rfl)) (by decide) (own_bk (rm_of l Z a0 hw b1 av (own_upd (own_upd (own_upd own_z av ((own_z av) + u1)) bv (((own_upd own_z av ((own_z av) + u1)) bv) + u2)) av (((own_upd (own_upd own_z av ((own_z av) + u1)) bv (((own_upd own_z av ((own_z av) + u1)) bv) + u2)) av) + (-tt))) h21 n0 P21_2 hav.1) hZ (hw _ (List.mem_of_getElem? (i := 32) rfl)) (hw _ (List.mem_of_getElem? (i := 2) rfl)) (by decide) (by decide)) e21 P21_0 (g := (mkF m 172 #[.val (.int p1), .val (.int p2), .val (.int p3), .val (.int p4), .val (.ref b1), .val (.int av), .val (.int bv), .val (.int u1), .val (.int u2), .val (.int (u1 + (0 : Int32))), .val (.int tt), .val (.int ((u1 + (0 : Int32)) - tt)), .val (.int u2), .val (.int vv), .val (.int ((u1 + (0 : Int32)) - tt))] [(.int av), (.ref b1)])) rfl (by rw [hml]; rfl) (lenOf pd_2 rfl) rfl (by show 2 * 0 + _ ≤ _; exact Nat.le_of_eq rfl) (hb hby at_172) (by decide) (by decide) (fun v23 T23 h23 L23 X23 e23 q23 => ?_)
        obtain ⟨rfl, M23, s23⟩ := q23
        replace e23 : T23.heap = h21 := e23.trans s23
        have N23 := Fr.app N21 M23
        show own_Run p e below Φ (T23.setTop (mkF m 175 #[.val (.int p1), .val (.int p2), .val (.int p3), .val (.int p4), .val (.ref b1), .val (.int av), .val (.int bv), .val (.int u1), .val (.int u2), .val (.int (u1 + (0 : Int32))), .val (.int tt), .val (.int ((u1 + (0 : Int32)) - tt)), .val (.int u2), .val (.int vv), .val (.int ((u1 + (0 : Int32)) - tt))] [(.int ((own_upd (own_upd (own_upd own_z av ((own_z av) + u1)) bv (((own_upd own_z av ((own_z av) + u1)) bv) + u2)) av (((own_upd (own_upd own_z av ((own_z av) + u1)) bv (((own_upd own_z av ((own_z av) + u1)) bv) + u2)) av) + (-tt))) av))]))
        refine own_go (fun t k => XS.iload X23.here hx rfl (hb hby at_175) rfl  k) ?_
        have hc177 : ((own_upd (own_upd (own_upd own_z av ((own_z av) + u1)) bv (((own_upd own_z av ((own_z av) + u1)) bv) + u2)) av (((own_upd (own_upd own_z av ((own_z av) + u1)) bv (((own_upd own_z av ((own_z av) + u1)) bv) + u2)) av) + (-tt))) av) = ((u1 + (0 : Int32)) - tt) := ((own_finN hc41 av).trans (if_pos rfl))
        refine own_go (fun t k => XS.icmpNo X23.here hx rfl (hb hby at_177) rfl (teq hc177).2 k) ?_
        refine own_go (fun t k => XS.aload X23.here hx rfl (hb hby at_180) rfl rfl  k) ?_
        refine own_go (fun t k => XS.iload X23.here hx rfl (hb hby at_182) rfl  k) ?_
        refine own_callV X23 hx hZ (y := (⟨"com/example/hueline/hueline/model/Degrees", "of", "(I)I"⟩ : MethodName)) (z := (⟨"com/example/hueline/hueline/model/Degrees", "of", "(I)I"⟩ : MethodName)) (W := 0) (a := b1) (argsL := [(.int bv)]) (rest := []) hown (hw _ (List.mem_of_getElem? (i := 28) rfl)) (hw _ (List.mem_of_getElem? (i := 29) rfl)) (notFace_of_selects (args := #[]) (mvT hZ (hw _ (List.mem_of_getElem? (i := 31) rfl)))) (hw _ (List.mem_of_getElem? (i := 31) rfl)) (hw _ (List.mem_of_getElem? (i := 30) rfl)) (by decide) (own_bk (rm_of l Z a0 hw b1 bv (own_upd (own_upd (own_upd own_z av ((own_z av) + u1)) bv (((own_upd own_z av ((own_z av) + u1)) bv) + u2)) av (((own_upd (own_upd own_z av ((own_z av) + u1)) bv (((own_upd own_z av ((own_z av) + u1)) bv) + u2)) av) + (-tt))) h21 n0 P21_2 hbv.1) hZ (hw _ (List.mem_of_getElem? (i := 32) rfl)) (hw _ (List.mem_of_getElem? (i := 2) rfl)) (by decide) (by decide)) e23 P21_0 (g := (mkF m 184 #[.val (.int p1), .val (.int p2), .val (.int p3), .val (.int p4), .val (.ref b1), .val (.int av), .val (.int bv), .val (.int u1), .val (.int u2), .val (.int (u1 + (0 : Int32))), .val (.int tt), .val (.int ((u1 + (0 : Int32)) - tt)), .val (.int u2), .val (.int vv), .val (.int ((u1 + (0 : Int32)) - tt))] [(.int bv), (.ref b1)])) rfl (by rw [hml]; rfl) (lenOf pd_2 rfl) rfl (by show 2 * 0 + _ ≤ _; exact Nat.le_of_eq rfl) (hb hby at_184) (by decide) (by decide) (fun v24 T24 h24 L24 X24 e24 q24 => ?_)
        obtain ⟨rfl, M24, s24⟩ := q24
        replace e24 : T24.heap = h21 := e24.trans s24
        have N24 := Fr.app N23 M24
        show own_Run p e below Φ (T24.setTop (mkF m 187 #[.val (.int p1), .val (.int p2), .val (.int p3), .val (.int p4), .val (.ref b1), .val (.int av), .val (.int bv), .val (.int u1), .val (.int u2), .val (.int (u1 + (0 : Int32))), .val (.int tt), .val (.int ((u1 + (0 : Int32)) - tt)), .val (.int u2), .val (.int vv), .val (.int ((u1 + (0 : Int32)) - tt))] [(.int ((own_upd (own_upd (own_upd own_z av ((own_z av) + u1)) bv (((own_upd own_z av ((own_z av) + u1)) bv) + u2)) av (((own_upd (own_upd own_z av ((own_z av) + u1)) bv (((own_upd own_z av ((own_z av) + u1)) bv) + u2)) av) + (-tt))) bv))]))
        refine own_go (fun t k => XS.iload X24.here hx rfl (hb hby at_187) rfl  k) ?_
        have hc189 : ((own_upd (own_upd (own_upd own_z av ((own_z av) + u1)) bv (((own_upd own_z av ((own_z av) + u1)) bv) + u2)) av (((own_upd (own_upd own_z av ((own_z av) + u1)) bv (((own_upd own_z av ((own_z av) + u1)) bv) + u2)) av) + (-tt))) bv) = u2 := ((own_finN hc41 bv).trans ((if_neg (fun q => hc41 q.symm)).trans (if_pos rfl)))
        refine own_go (fun t k => XS.icmpNo X24.here hx rfl (hb hby at_189) rfl (teq hc189).2 k) ?_
        refine own_go (fun t k => XS.aload X24.here hx rfl (hb hby at_192) rfl rfl  k) ?_
        refine own_go (fun t k => XS.iload X24.here hx rfl (hb hby at_194) rfl  k) ?_
        refine own_callV X24 hx hZ (y := (⟨"com/example/hueline/hueline/model/Degrees", "of", "(I)I"⟩ : MethodName)) (z := (⟨"com/example/hueline/hueline/model/Degrees", "of", "(I)I"⟩ : MethodName)) (W := 0) (a := b1) (argsL := [(.int vv)]) (rest := []) hown (hw _ (List.mem_of_getElem? (i := 28) rfl)) (hw _ (List.mem_of_getElem? (i := 29) rfl)) (notFace_of_selects (args := #[]) (mvT hZ (hw _ (List.mem_of_getElem? (i := 31) rfl)))) (hw _ (List.mem_of_getElem? (i := 31) rfl)) (hw _ (List.mem_of_getElem? (i := 30) rfl)) (by decide) (own_bk (rm_of l Z a0 hw b1 vv (own_upd (own_upd (own_upd own_z av ((own_z av) + u1)) bv (((own_upd own_z av ((own_z av) + u1)) bv) + u2)) av (((own_upd (own_upd own_z av ((own_z av) + u1)) bv (((own_upd own_z av ((own_z av) + u1)) bv) + u2)) av) + (-tt))) h21 n0 P21_2 hvv) hZ (hw _ (List.mem_of_getElem? (i := 32) rfl)) (hw _ (List.mem_of_getElem? (i := 2) rfl)) (by decide) (by decide)) e24 P21_0 (g := (mkF m 196 #[.val (.int p1), .val (.int p2), .val (.int p3), .val (.int p4), .val (.ref b1), .val (.int av), .val (.int bv), .val (.int u1), .val (.int u2), .val (.int (u1 + (0 : Int32))), .val (.int tt), .val (.int ((u1 + (0 : Int32)) - tt)), .val (.int u2), .val (.int vv), .val (.int ((u1 + (0 : Int32)) - tt))] [(.int vv), (.ref b1)])) rfl (by rw [hml]; rfl) (lenOf pd_2 rfl) rfl (by show 2 * 0 + _ ≤ _; exact Nat.le_of_eq rfl) (hb hby at_196) (by decide) (by decide) (fun v25 T25 h25 L25 X25 e25 q25 => ?_)
        obtain ⟨rfl, M25, s25⟩ := q25
        replace e25 : T25.heap = h21 := e25.trans s25
        have N25 := Fr.app N24 M25
        show own_Run p e below Φ (T25.setTop (mkF m 199 #[.val (.int p1), .val (.int p2), .val (.int p3), .val (.int p4), .val (.ref b1), .val (.int av), .val (.int bv), .val (.int u1), .val (.int u2), .val (.int (u1 + (0 : Int32))), .val (.int tt), .val (.int ((u1 + (0 : Int32)) - tt)), .val (.int u2), .val (.int vv), .val (.int ((u1 + (0 : Int32)) - tt))] [(.int ((own_upd (own_upd (own_upd own_z av ((own_z av) + u1)) bv (((own_upd own_z av ((own_z av) + u1)) bv) + u2)) av (((own_upd (own_upd own_z av ((own_z av) + u1)) bv (((own_upd own_z av ((own_z av) + u1)) bv) + u2)) av) + (-tt))) vv))]))
        refine own_go (fun t k => XS.iload X25.here hx rfl (hb hby at_199) rfl  k) ?_
        have hc201 : ((own_upd (own_upd (own_upd own_z av ((own_z av) + u1)) bv (((own_upd own_z av ((own_z av) + u1)) bv) + u2)) av (((own_upd (own_upd own_z av ((own_z av) + u1)) bv (((own_upd own_z av ((own_z av) + u1)) bv) + u2)) av) + (-tt))) vv) = ((u1 + (0 : Int32)) - tt) := ((own_finN hc41 vv).trans (if_pos hc145))
        refine own_go (fun t k => XS.icmpNo X25.here hx rfl (hb hby at_201) rfl (teq hc201).2 k) ?_
        refine own_go (fun t k => XS.iconst X25.here hx rfl (hb hby at_204) k) ?_
        refine own_go (fun t k => XS.goto X25.here hx rfl (pc0 := 205) (pc' := 209) rfl (hb hby at_205) (by decide) (by decide) k) ?_
        subst hΦ
        exact own_retN X25 hx (t := .boolean) Bd.returns (by simp) hlk (hb hby at_209) e25 ⟨rfl, N25⟩ (by decide) (by decide)
      · refine own_go (fun t k => XS.icmpYes X21.here hx rfl (pc0 := 145) (pc' := 153) rfl (hb hby at_145) rfl (feq hc145).2 (by decide) (by decide) k) ?_
        show own_Run p e below Φ (T21.setTop (mkF m 153 #[.val (.int p1), .val (.int p2), .val (.int p3), .val (.int p4), .val (.ref b1), .val (.int av), .val (.int bv), .val (.int u1), .val (.int u2), .val (.int (u1 + (0 : Int32))), .val (.int tt), .val (.int ((u1 + (0 : Int32)) - tt)), .val (.int u2), .val (.int vv), .unset] []))
        refine own_go (fun t k => XS.iload X21.here hx rfl (hb hby at_153) rfl  k) ?_
        refine own_go (fun t k => XS.iload X21.here hx rfl (hb hby at_155) rfl  k) ?_
        by_cases hc157 : vv = bv
        · refine own_go (fun t k => XS.icmpNo X21.here hx rfl (hb hby at_157) rfl (teq hc157).2 k) ?_
          refine own_go (fun t k => XS.iload X21.here hx rfl (hb hby at_160) rfl  k) ?_
          refine own_go (fun t k => XS.goto X21.here hx rfl (pc0 := 162) (pc' := 166) rfl (hb hby at_162) (by decide) (by decide) k) ?_
          show own_Run p e below Φ (T21.setTop (mkF m 166 #[.val (.int p1), .val (.int p2), .val (.int p3), .val (.int p4), .val (.ref b1), .val (.int av), .val (.int bv), .val (.int u1), .val (.int u2), .val (.int (u1 + (0 : Int32))), .val (.int tt), .val (.int ((u1 + (0 : Int32)) - tt)), .val (.int u2), .val (.int vv), .unset] [(.int u2)]))
          refine own_go (fun t k => XS.istore X21.here hx rfl (hb hby at_166) rfl (l' := #[.val (.int p1), .val (.int p2), .val (.int p3), .val (.int p4), .val (.ref b1), .val (.int av), .val (.int bv), .val (.int u1), .val (.int u2), .val (.int (u1 + (0 : Int32))), .val (.int tt), .val (.int ((u1 + (0 : Int32)) - tt)), .val (.int u2), .val (.int vv), .val (.int u2)]) rfl k) ?_
          refine own_go (fun t k => XS.aload X21.here hx rfl (hb hby at_168) rfl rfl  k) ?_
          refine own_go (fun t k => XS.iload X21.here hx rfl (hb hby at_170) rfl  k) ?_
          refine own_callV X21 hx hZ (y := (⟨"com/example/hueline/hueline/model/Degrees", "of", "(I)I"⟩ : MethodName)) (z := (⟨"com/example/hueline/hueline/model/Degrees", "of", "(I)I"⟩ : MethodName)) (W := 0) (a := b1) (argsL := [(.int av)]) (rest := []) hown (hw _ (List.mem_of_getElem? (i := 28) rfl)) (hw _ (List.mem_of_getElem? (i := 29) rfl)) (notFace_of_selects (args := #[]) (mvT hZ (hw _ (List.mem_of_getElem? (i := 31) rfl)))) (hw _ (List.mem_of_getElem? (i := 31) rfl)) (hw _ (List.mem_of_getElem? (i := 30) rfl)) (by decide) (own_bk (rm_of l Z a0 hw b1 av (own_upd (own_upd (own_upd own_z av ((own_z av) + u1)) bv (((own_upd own_z av ((own_z av) + u1)) bv) + u2)) av (((own_upd (own_upd own_z av ((own_z av) + u1)) bv (((own_upd own_z av ((own_z av) + u1)) bv) + u2)) av) + (-tt))) h21 n0 P21_2 hav.1) hZ (hw _ (List.mem_of_getElem? (i := 32) rfl)) (hw _ (List.mem_of_getElem? (i := 2) rfl)) (by decide) (by decide)) e21 P21_0 (g := (mkF m 172 #[.val (.int p1), .val (.int p2), .val (.int p3), .val (.int p4), .val (.ref b1), .val (.int av), .val (.int bv), .val (.int u1), .val (.int u2), .val (.int (u1 + (0 : Int32))), .val (.int tt), .val (.int ((u1 + (0 : Int32)) - tt)), .val (.int u2), .val (.int vv), .val (.int u2)] [(.int av), (.ref b1)])) rfl (by rw [hml]; rfl) (lenOf pd_2 rfl) rfl (by show 2 * 0 + _ ≤ _; exact Nat.le_of_eq rfl) (hb hby at_172) (by decide) (by decide) (fun v26 T26 h26 L26 X26 e26 q26 => ?_)
          obtain ⟨rfl, M26, s26⟩ := q26
          replace e26 : T26.heap = h21 := e26.trans s26
          have N26 := Fr.app N21 M26
          refine own_go (fun t k => XS.iload X26.here hx rfl (hb hby at_175) rfl  k) ?_
          show own_Run p e below Φ (T26.setTop (mkF m 177 #[.val (.int p1), .val (.int p2), .val (.int p3), .val (.int p4), .val (.ref b1), .val (.int av), .val (.int bv), .val (.int u1), .val (.int u2), .val (.int (u1 + (0 : Int32))), .val (.int tt), .val (.int ((u1 + (0 : Int32)) - tt)), .val (.int u2), .val (.int vv), .val (.int u2)] [(.int ((u1 + (0 : Int32)) - tt)), (.int ((own_upd (own_upd (own_upd own_z av ((own_z av) + u1)) bv (((own_upd own_z av ((own_z av) + u1)) bv) + u2)) av (((own_upd (own_upd own_z av ((own_z av) + u1)) bv (((own_upd own_z av ((own_z av) + u1)) bv) + u2)) av) + (-tt))) av))]))
          have hc177 : ((own_upd (own_upd (own_upd own_z av ((own_z av) + u1)) bv (((own_upd own_z av ((own_z av) + u1)) bv) + u2)) av (((own_upd (own_upd own_z av ((own_z av) + u1)) bv (((own_upd own_z av ((own_z av) + u1)) bv) + u2)) av) + (-tt))) av) = ((u1 + (0 : Int32)) - tt) := ((own_finN hc41 av).trans (if_pos rfl))
          refine own_go (fun t k => XS.icmpNo X26.here hx rfl (hb hby at_177) rfl (teq hc177).2 k) ?_
          refine own_go (fun t k => XS.aload X26.here hx rfl (hb hby at_180) rfl rfl  k) ?_
          refine own_go (fun t k => XS.iload X26.here hx rfl (hb hby at_182) rfl  k) ?_
          refine own_callV X26 hx hZ (y := (⟨"com/example/hueline/hueline/model/Degrees", "of", "(I)I"⟩ : MethodName)) (z := (⟨"com/example/hueline/hueline/model/Degrees", "of", "(I)I"⟩ : MethodName)) (W := 0) (a := b1) (argsL := [(.int bv)]) (rest := []) hown (hw _ (List.mem_of_getElem? (i := 28) rfl)) (hw _ (List.mem_of_getElem? (i := 29) rfl)) (notFace_of_selects (args := #[]) (mvT hZ (hw _ (List.mem_of_getElem? (i := 31) rfl)))) (hw _ (List.mem_of_getElem? (i := 31) rfl)) (hw _ (List.mem_of_getElem? (i := 30) rfl)) (by decide) (own_bk (rm_of l Z a0 hw b1 bv (own_upd (own_upd (own_upd own_z av ((own_z av) + u1)) bv (((own_upd own_z av ((own_z av) + u1)) bv) + u2)) av (((own_upd (own_upd own_z av ((own_z av) + u1)) bv (((own_upd own_z av ((own_z av) + u1)) bv) + u2)) av) + (-tt))) h21 n0 P21_2 hbv.1) hZ (hw _ (List.mem_of_getElem? (i := 32) rfl)) (hw _ (List.mem_of_getElem? (i := 2) rfl)) (by decide) (by decide)) e26 P21_0 (g := (mkF m 184 #[.val (.int p1), .val (.int p2), .val (.int p3), .val (.int p4), .val (.ref b1), .val (.int av), .val (.int bv), .val (.int u1), .val (.int u2), .val (.int (u1 + (0 : Int32))), .val (.int tt), .val (.int ((u1 + (0 : Int32)) - tt)), .val (.int u2), .val (.int vv), .val (.int u2)] [(.int bv), (.ref b1)])) rfl (by rw [hml]; rfl) (lenOf pd_2 rfl) rfl (by show 2 * 0 + _ ≤ _; exact Nat.le_of_eq rfl) (hb hby at_184) (by decide) (by decide) (fun v27 T27 h27 L27 X27 e27 q27 => ?_)
          obtain ⟨rfl, M27, s27⟩ := q27
          replace e27 : T27.heap = h21 := e27.trans s27
          have N27 := Fr.app N26 M27
          refine own_go (fun t k => XS.iload X27.here hx rfl (hb hby at_187) rfl  k) ?_
          show own_Run p e below Φ (T27.setTop (mkF m 189 #[.val (.int p1), .val (.int p2), .val (.int p3), .val (.int p4), .val (.ref b1), .val (.int av), .val (.int bv), .val (.int u1), .val (.int u2), .val (.int (u1 + (0 : Int32))), .val (.int tt), .val (.int ((u1 + (0 : Int32)) - tt)), .val (.int u2), .val (.int vv), .val (.int u2)] [(.int u2), (.int ((own_upd (own_upd (own_upd own_z av ((own_z av) + u1)) bv (((own_upd own_z av ((own_z av) + u1)) bv) + u2)) av (((own_upd (own_upd own_z av ((own_z av) + u1)) bv (((own_upd own_z av ((own_z av) + u1)) bv) + u2)) av) + (-tt))) bv))]))
          have hc189 : ((own_upd (own_upd (own_upd own_z av ((own_z av) + u1)) bv (((own_upd own_z av ((own_z av) + u1)) bv) + u2)) av (((own_upd (own_upd own_z av ((own_z av) + u1)) bv (((own_upd own_z av ((own_z av) + u1)) bv) + u2)) av) + (-tt))) bv) = u2 := ((own_finN hc41 bv).trans ((if_neg (fun q => hc41 q.symm)).trans (if_pos rfl)))
          refine own_go (fun t k => XS.icmpNo X27.here hx rfl (hb hby at_189) rfl (teq hc189).2 k) ?_
          refine own_go (fun t k => XS.aload X27.here hx rfl (hb hby at_192) rfl rfl  k) ?_
          refine own_go (fun t k => XS.iload X27.here hx rfl (hb hby at_194) rfl  k) ?_
          refine own_callV X27 hx hZ (y := (⟨"com/example/hueline/hueline/model/Degrees", "of", "(I)I"⟩ : MethodName)) (z := (⟨"com/example/hueline/hueline/model/Degrees", "of", "(I)I"⟩ : MethodName)) (W := 0) (a := b1) (argsL := [(.int vv)]) (rest := []) hown (hw _ (List.mem_of_getElem? (i := 28) rfl)) (hw _ (List.mem_of_getElem? (i := 29) rfl)) (notFace_of_selects (args := #[]) (mvT hZ (hw _ (List.mem_of_getElem? (i := 31) rfl)))) (hw _ (List.mem_of_getElem? (i := 31) rfl)) (hw _ (List.mem_of_getElem? (i := 30) rfl)) (by decide) (own_bk (rm_of l Z a0 hw b1 vv (own_upd (own_upd (own_upd own_z av ((own_z av) + u1)) bv (((own_upd own_z av ((own_z av) + u1)) bv) + u2)) av (((own_upd (own_upd own_z av ((own_z av) + u1)) bv (((own_upd own_z av ((own_z av) + u1)) bv) + u2)) av) + (-tt))) h21 n0 P21_2 hvv) hZ (hw _ (List.mem_of_getElem? (i := 32) rfl)) (hw _ (List.mem_of_getElem? (i := 2) rfl)) (by decide) (by decide)) e27 P21_0 (g := (mkF m 196 #[.val (.int p1), .val (.int p2), .val (.int p3), .val (.int p4), .val (.ref b1), .val (.int av), .val (.int bv), .val (.int u1), .val (.int u2), .val (.int (u1 + (0 : Int32))), .val (.int tt), .val (.int ((u1 + (0 : Int32)) - tt)), .val (.int u2), .val (.int vv), .val (.int u2)] [(.int vv), (.ref b1)])) rfl (by rw [hml]; rfl) (lenOf pd_2 rfl) rfl (by show 2 * 0 + _ ≤ _; exact Nat.le_of_eq rfl) (hb hby at_196) (by decide) (by decide) (fun v28 T28 h28 L28 X28 e28 q28 => ?_)
          obtain ⟨rfl, M28, s28⟩ := q28
          replace e28 : T28.heap = h21 := e28.trans s28
          have N28 := Fr.app N27 M28
          refine own_go (fun t k => XS.iload X28.here hx rfl (hb hby at_199) rfl  k) ?_
          show own_Run p e below Φ (T28.setTop (mkF m 201 #[.val (.int p1), .val (.int p2), .val (.int p3), .val (.int p4), .val (.ref b1), .val (.int av), .val (.int bv), .val (.int u1), .val (.int u2), .val (.int (u1 + (0 : Int32))), .val (.int tt), .val (.int ((u1 + (0 : Int32)) - tt)), .val (.int u2), .val (.int vv), .val (.int u2)] [(.int u2), (.int ((own_upd (own_upd (own_upd own_z av ((own_z av) + u1)) bv (((own_upd own_z av ((own_z av) + u1)) bv) + u2)) av (((own_upd (own_upd own_z av ((own_z av) + u1)) bv (((own_upd own_z av ((own_z av) + u1)) bv) + u2)) av) + (-tt))) vv))]))
          have hc201 : ((own_upd (own_upd (own_upd own_z av ((own_z av) + u1)) bv (((own_upd own_z av ((own_z av) + u1)) bv) + u2)) av (((own_upd (own_upd own_z av ((own_z av) + u1)) bv (((own_upd own_z av ((own_z av) + u1)) bv) + u2)) av) + (-tt))) vv) = u2 := ((own_finN hc41 vv).trans ((if_neg hc145).trans (if_pos hc157)))
          refine own_go (fun t k => XS.icmpNo X28.here hx rfl (hb hby at_201) rfl (teq hc201).2 k) ?_
          refine own_go (fun t k => XS.iconst X28.here hx rfl (hb hby at_204) k) ?_
          refine own_go (fun t k => XS.goto X28.here hx rfl (pc0 := 205) (pc' := 209) rfl (hb hby at_205) (by decide) (by decide) k) ?_
          subst hΦ
          exact own_retN X28 hx (t := .boolean) Bd.returns (by simp) hlk (hb hby at_209) e28 ⟨rfl, N28⟩ (by decide) (by decide)
        · refine own_go (fun t k => XS.icmpYes X21.here hx rfl (pc0 := 157) (pc' := 165) rfl (hb hby at_157) rfl (feq hc157).2 (by decide) (by decide) k) ?_
          refine own_go (fun t k => XS.iconst X21.here hx rfl (hb hby at_165) k) ?_
          show own_Run p e below Φ (T21.setTop (mkF m 166 #[.val (.int p1), .val (.int p2), .val (.int p3), .val (.int p4), .val (.ref b1), .val (.int av), .val (.int bv), .val (.int u1), .val (.int u2), .val (.int (u1 + (0 : Int32))), .val (.int tt), .val (.int ((u1 + (0 : Int32)) - tt)), .val (.int u2), .val (.int vv), .unset] [(.int (0 : Int32))]))
          refine own_go (fun t k => XS.istore X21.here hx rfl (hb hby at_166) rfl (l' := #[.val (.int p1), .val (.int p2), .val (.int p3), .val (.int p4), .val (.ref b1), .val (.int av), .val (.int bv), .val (.int u1), .val (.int u2), .val (.int (u1 + (0 : Int32))), .val (.int tt), .val (.int ((u1 + (0 : Int32)) - tt)), .val (.int u2), .val (.int vv), .val (.int (0 : Int32))]) rfl k) ?_
          refine own_go (fun t k => XS.aload X21.here hx rfl (hb hby at_168) rfl rfl  k) ?_
          refine own_go (fun t k => XS.iload X21.here hx rfl (hb hby at_170) rfl  k) ?_
          refine own_callV X21 hx hZ (y := (⟨"com/example/hueline/hueline/model/Degrees", "of", "(I)I"⟩ : MethodName)) (z := (⟨"com/example/hueline/hueline/model/Degrees", "of", "(I)I"⟩ : MethodName)) (W := 0) (a := b1) (argsL := [(.int av)]) (rest := []) hown (hw _ (List.mem_of_getElem? (i := 28) rfl)) (hw _ (List.mem_of_getElem? (i := 29) rfl)) (notFace_of_selects (args := #[]) (mvT hZ (hw _ (List.mem_of_getElem? (i := 31) rfl)))) (hw _ (List.mem_of_getElem? (i := 31) rfl)) (hw _ (List.mem_of_getElem? (i := 30) rfl)) (by decide) (own_bk (rm_of l Z a0 hw b1 av (own_upd (own_upd (own_upd own_z av ((own_z av) + u1)) bv (((own_upd own_z av ((own_z av) + u1)) bv) + u2)) av (((own_upd (own_upd own_z av ((own_z av) + u1)) bv (((own_upd own_z av ((own_z av) + u1)) bv) + u2)) av) + (-tt))) h21 n0 P21_2 hav.1) hZ (hw _ (List.mem_of_getElem? (i := 32) rfl)) (hw _ (List.mem_of_getElem? (i := 2) rfl)) (by decide) (by decide)) e21 P21_0 (g := (mkF m 172 #[.val (.int p1), .val (.int p2), .val (.int p3), .val (.int p4), .val (.ref b1), .val (.int av), .val (.int bv), .val (.int u1), .val (.int u2), .val (.int (u1 + (0 : Int32))), .val (.int tt), .val (.int ((u1 + (0 : Int32)) - tt)), .val (.int u2), .val (.int vv), .val (.int (0 : Int32))] [(.int av), (.ref b1)])) rfl (by rw [hml]; rfl) (lenOf pd_2 rfl) rfl (by show 2 * 0 + _ ≤ _; exact Nat.le_of_eq rfl) (hb hby at_172) (by decide) (by decide) (fun v29 T29 h29 L29 X29 e29 q29 => ?_)
          obtain ⟨rfl, M29, s29⟩ := q29
          replace e29 : T29.heap = h21 := e29.trans s29
          have N29 := Fr.app N21 M29
          refine own_go (fun t k => XS.iload X29.here hx rfl (hb hby at_175) rfl  k) ?_
          show own_Run p e below Φ (T29.setTop (mkF m 177 #[.val (.int p1), .val (.int p2), .val (.int p3), .val (.int p4), .val (.ref b1), .val (.int av), .val (.int bv), .val (.int u1), .val (.int u2), .val (.int (u1 + (0 : Int32))), .val (.int tt), .val (.int ((u1 + (0 : Int32)) - tt)), .val (.int u2), .val (.int vv), .val (.int (0 : Int32))] [(.int ((u1 + (0 : Int32)) - tt)), (.int ((own_upd (own_upd (own_upd own_z av ((own_z av) + u1)) bv (((own_upd own_z av ((own_z av) + u1)) bv) + u2)) av (((own_upd (own_upd own_z av ((own_z av) + u1)) bv (((own_upd own_z av ((own_z av) + u1)) bv) + u2)) av) + (-tt))) av))]))
          have hc177 : ((own_upd (own_upd (own_upd own_z av ((own_z av) + u1)) bv (((own_upd own_z av ((own_z av) + u1)) bv) + u2)) av (((own_upd (own_upd own_z av ((own_z av) + u1)) bv (((own_upd own_z av ((own_z av) + u1)) bv) + u2)) av) + (-tt))) av) = ((u1 + (0 : Int32)) - tt) := ((own_finN hc41 av).trans (if_pos rfl))
          refine own_go (fun t k => XS.icmpNo X29.here hx rfl (hb hby at_177) rfl (teq hc177).2 k) ?_
          refine own_go (fun t k => XS.aload X29.here hx rfl (hb hby at_180) rfl rfl  k) ?_
          refine own_go (fun t k => XS.iload X29.here hx rfl (hb hby at_182) rfl  k) ?_
          refine own_callV X29 hx hZ (y := (⟨"com/example/hueline/hueline/model/Degrees", "of", "(I)I"⟩ : MethodName)) (z := (⟨"com/example/hueline/hueline/model/Degrees", "of", "(I)I"⟩ : MethodName)) (W := 0) (a := b1) (argsL := [(.int bv)]) (rest := []) hown (hw _ (List.mem_of_getElem? (i := 28) rfl)) (hw _ (List.mem_of_getElem? (i := 29) rfl)) (notFace_of_selects (args := #[]) (mvT hZ (hw _ (List.mem_of_getElem? (i := 31) rfl)))) (hw _ (List.mem_of_getElem? (i := 31) rfl)) (hw _ (List.mem_of_getElem? (i := 30) rfl)) (by decide) (own_bk (rm_of l Z a0 hw b1 bv (own_upd (own_upd (own_upd own_z av ((own_z av) + u1)) bv (((own_upd own_z av ((own_z av) + u1)) bv) + u2)) av (((own_upd (own_upd own_z av ((own_z av) + u1)) bv (((own_upd own_z av ((own_z av) + u1)) bv) + u2)) av) + (-tt))) h21 n0 P21_2 hbv.1) hZ (hw _ (List.mem_of_getElem? (i := 32) rfl)) (hw _ (List.mem_of_getElem? (i := 2) rfl)) (by decide) (by decide)) e29 P21_0 (g := (mkF m 184 #[.val (.int p1), .val (.int p2), .val (.int p3), .val (.int p4), .val (.ref b1), .val (.int av), .val (.int bv), .val (.int u1), .val (.int u2), .val (.int (u1 + (0 : Int32))), .val (.int tt), .val (.int ((u1 + (0 : Int32)) - tt)), .val (.int u2), .val (.int vv), .val (.int (0 : Int32))] [(.int bv), (.ref b1)])) rfl (by rw [hml]; rfl) (lenOf pd_2 rfl) rfl (by show 2 * 0 + _ ≤ _; exact Nat.le_of_eq rfl) (hb hby at_184) (by decide) (by decide) (fun v30 T30 h30 L30 X30 e30 q30 => ?_)
          obtain ⟨rfl, M30, s30⟩ := q30
          replace e30 : T30.heap = h21 := e30.trans s30
          have N30 := Fr.app N29 M30
          refine own_go (fun t k => XS.iload X30.here hx rfl (hb hby at_187) rfl  k) ?_
          show own_Run p e below Φ (T30.setTop (mkF m 189 #[.val (.int p1), .val (.int p2), .val (.int p3), .val (.int p4), .val (.ref b1), .val (.int av), .val (.int bv), .val (.int u1), .val (.int u2), .val (.int (u1 + (0 : Int32))), .val (.int tt), .val (.int ((u1 + (0 : Int32)) - tt)), .val (.int u2), .val (.int vv), .val (.int (0 : Int32))] [(.int u2), (.int ((own_upd (own_upd (own_upd own_z av ((own_z av) + u1)) bv (((own_upd own_z av ((own_z av) + u1)) bv) + u2)) av (((own_upd (own_upd own_z av ((own_z av) + u1)) bv (((own_upd own_z av ((own_z av) + u1)) bv) + u2)) av) + (-tt))) bv))]))
          have hc189 : ((own_upd (own_upd (own_upd own_z av ((own_z av) + u1)) bv (((own_upd own_z av ((own_z av) + u1)) bv) + u2)) av (((own_upd (own_upd own_z av ((own_z av) + u1)) bv (((own_upd own_z av ((own_z av) + u1)) bv) + u2)) av) + (-tt))) bv) = u2 := ((own_finN hc41 bv).trans ((if_neg (fun q => hc41 q.symm)).trans (if_pos rfl)))
          refine own_go (fun t k => XS.icmpNo X30.here hx rfl (hb hby at_189) rfl (teq hc189).2 k) ?_
          refine own_go (fun t k => XS.aload X30.here hx rfl (hb hby at_192) rfl rfl  k) ?_
          refine own_go (fun t k => XS.iload X30.here hx rfl (hb hby at_194) rfl  k) ?_
          refine own_callV X30 hx hZ (y := (⟨"com/example/hueline/hueline/model/Degrees", "of", "(I)I"⟩ : MethodName)) (z := (⟨"com/example/hueline/hueline/model/Degrees", "of", "(I)I"⟩ : MethodName)) (W := 0) (a := b1) (argsL := [(.int vv)]) (rest := []) hown (hw _ (List.mem_of_getElem? (i := 28) rfl)) (hw _ (List.mem_of_getElem? (i := 29) rfl)) (notFace_of_selects (args := #[]) (mvT hZ (hw _ (List.mem_of_getElem? (i := 31) rfl)))) (hw _ (List.mem_of_getElem? (i := 31) rfl)) (hw _ (List.mem_of_getElem? (i := 30) rfl)) (by decide) (own_bk (rm_of l Z a0 hw b1 vv (own_upd (own_upd (own_upd own_z av ((own_z av) + u1)) bv (((own_upd own_z av ((own_z av) + u1)) bv) + u2)) av (((own_upd (own_upd own_z av ((own_z av) + u1)) bv (((own_upd own_z av ((own_z av) + u1)) bv) + u2)) av) + (-tt))) h21 n0 P21_2 hvv) hZ (hw _ (List.mem_of_getElem? (i := 32) rfl)) (hw _ (List.mem_of_getElem? (i := 2) rfl)) (by decide) (by decide)) e30 P21_0 (g := (mkF m 196 #[.val (.int p1), .val (.int p2), .val (.int p3), .val (.int p4), .val (.ref b1), .val (.int av), .val (.int bv), .val (.int u1), .val (.int u2), .val (.int (u1 + (0 : Int32))), .val (.int tt), .val (.int ((u1 + (0 : Int32)) - tt)), .val (.int u2), .val (.int vv), .val (.int (0 : Int32))] [(.int vv), (.ref b1)])) rfl (by rw [hml]; rfl) (lenOf pd_2 rfl) rfl (by show 2 * 0 + _ ≤ _; exact Nat.le_of_eq rfl) (hb hby at_196) (by decide) (by decide) (fun v31 T31 h31 L31 X31 e31 q31 => ?_)
          obtain ⟨rfl, M31, s31⟩ := q31
          replace e31 : T31.heap = h21 := e31.trans s31
          have N31 := Fr.app N30 M31
          refine own_go (fun t k => XS.iload X31.here hx rfl (hb hby at_199) rfl  k) ?_
          show own_Run p e below Φ (T31.setTop (mkF m 201 #[.val (.int p1), .val (.int p2), .val (.int p3), .val (.int p4), .val (.ref b1), .val (.int av), .val (.int bv), .val (.int u1), .val (.int u2), .val (.int (u1 + (0 : Int32))), .val (.int tt), .val (.int ((u1 + (0 : Int32)) - tt)), .val (.int u2), .val (.int vv), .val (.int (0 : Int32))] [(.int (0 : Int32)), (.int ((own_upd (own_upd (own_upd own_z av ((own_z av) + u1)) bv (((own_upd own_z av ((own_z av) + u1)) bv) + u2)) av (((own_upd (own_upd own_z av ((own_z av) + u1)) bv (((own_upd own_z av ((own_z av) + u1)) bv) + u2)) av) + (-tt))) vv))]))
          have hc201 : ((own_upd (own_upd (own_upd own_z av ((own_z av) + u1)) bv (((own_upd own_z av ((own_z av) + u1)) bv) + u2)) av (((own_upd (own_upd own_z av ((own_z av) + u1)) bv (((own_upd own_z av ((own_z av) + u1)) bv) + u2)) av) + (-tt))) vv) = (0 : Int32) := ((own_finN hc41 vv).trans ((if_neg hc145).trans (if_neg hc157)))
          refine own_go (fun t k => XS.icmpNo X31.here hx rfl (hb hby at_201) rfl (teq hc201).2 k) ?_
          refine own_go (fun t k => XS.iconst X31.here hx rfl (hb hby at_204) k) ?_
          refine own_go (fun t k => XS.goto X31.here hx rfl (pc0 := 205) (pc' := 209) rfl (hb hby at_205) (by decide) (by decide) k) ?_
          subst hΦ
          exact own_retN X31 hx (t := .boolean) Bd.returns (by simp) hlk (hb hby at_209) e31 ⟨rfl, N31⟩ (by decide) (by decide)
    show own_Run p e below Φ (T21.setTop (mkF m 121 #[.val (.int p1), .val (.int p2), .val (.int p3), .val (.int p4), .val (.ref b1), .val (.int av), .val (.int bv), .val (.int u1), .val (.int u2), .val (.int (u1 + (0 : Int32))), .val (.int tt), .val (.int ((u1 + (0 : Int32)) - tt)), .val (.int u2), .unset, .unset] []))
    refine own_go (fun t k => XS.iloadN X21.here hx rfl (hb hby at_121) rfl  k) ?_
    refine own_go (fun t k => XS.iconst X21.here hx rfl (hb hby at_122) k) ?_
    show own_Run p e below Φ (T21.setTop (mkF m 123 #[.val (.int p1), .val (.int p2), .val (.int p3), .val (.int p4), .val (.ref b1), .val (.int av), .val (.int bv), .val (.int u1), .val (.int u2), .val (.int (u1 + (0 : Int32))), .val (.int tt), .val (.int ((u1 + (0 : Int32)) - tt)), .val (.int u2), .unset, .unset] [(.int (1 : Int32)), (.int p4)]))
    refine own_go (fun t k => XS.iand X21.here hx rfl (hb hby at_123) rfl k) ?_
    by_cases hc124 : (p4 &&& (1 : Int32)) = (0 : Int32)
    · refine own_go (fun t k => XS.ifNo X21.here hx rfl (hb hby at_124) rfl ((if0 _ _).trans (teq hc124).2) k) ?_
      refine own_go (fun t k => XS.iloadN X21.here hx rfl (hb hby at_127) rfl  k) ?_
      refine own_go (fun t k => XS.iconst X21.here hx rfl (hb hby at_128) k) ?_
      refine own_go (fun t k => XS.iushr X21.here hx rfl (hb hby at_129) rfl k) ?_
      show own_Run p e below Φ (T21.setTop (mkF m 130 #[.val (.int p1), .val (.int p2), .val (.int p3), .val (.int p4), .val (.ref b1), .val (.int av), .val (.int bv), .val (.int u1), .val (.int u2), .val (.int (u1 + (0 : Int32))), .val (.int tt), .val (.int ((u1 + (0 : Int32)) - tt)), .val (.int u2), .unset, .unset] [(.int ((p4.toUInt32 >>> ((1 : Int32) &&& 31).toUInt32).toInt32))]))
      refine own_go (fun t k => XS.bipush X21.here hx rfl (hb hby at_130) k) ?_
      refine own_go (fun t k => XS.iand X21.here hx rfl (hb hby at_132) rfl k) ?_
      refine own_go (fun t k => XS.goto X21.here hx rfl (pc0 := 133) (pc' := 139) rfl (hb hby at_133) (by decide) (by decide) k) ?_
      exact J139_22 (((p4.toUInt32 >>> ((1 : Int32) &&& 31).toUInt32).toInt32) &&& (63 : Int32)) (own_nnn _)
    · refine own_go (fun t k => XS.ifYes X21.here hx rfl (pc0 := 124) (pc' := 136) rfl (hb hby at_124) rfl ((if0 _ _).trans (feq hc124).2) (by decide) (by decide) k) ?_
      refine own_go (fun t k => XS.iloadN X21.here hx rfl (hb hby at_136) rfl  k) ?_
      refine own_go (fun t k => XS.iconst X21.here hx rfl (hb hby at_137) k) ?_
      show own_Run p e below Φ (T21.setTop (mkF m 138 #[.val (.int p1), .val (.int p2), .val (.int p3), .val (.int p4), .val (.ref b1), .val (.int av), .val (.int bv), .val (.int u1), .val (.int u2), .val (.int (u1 + (0 : Int32))), .val (.int tt), .val (.int ((u1 + (0 : Int32)) - tt)), .val (.int u2), .unset, .unset] [(.int (1 : Int32)), (.int p4)]))
      refine own_go (fun t k => XS.iushr X21.here hx rfl (hb hby at_138) rfl k) ?_
      exact J139_22 ((p4.toUInt32 >>> ((1 : Int32) &&& 31).toUInt32).toInt32) (own_nnu _)
set_option maxRecDepth 65536 in
set_option maxHeartbeats 40000000 in
theorem comes_1 {Post : Tables → Env → Array Value → State → Outcome → State → Prop} (hpost : ∀ tb e args s v u, (limb_1_1.after args s (.returned v) u = true ∧ limb_1_2.after args s (.returned v) u = true ∧ True) → FrameEnd s (.returned v) u (Jvm.fieldLocs frame_1_writes args s ++ Jvm.arrayLocs frame_1_arrays args s ++ Jvm.staticLocs frame_1_statics s) 24 512 → Post tb e args s (.returned v) u) :
    ArmFor flags0 classFile x code maxLocals ret World_1 tables_1 room_1 Calls_1 rest_1 Pre_1 Post := by
  intro l hfl _ _ p e ha hc hk s m args below hf hA hF happ hP
  obtain ⟨hcalls, hrest, hpre⟩ := hP
  obtain ⟨-, -, -, hnamed, -, -, -, hat⟩ := (Spec.applies_iff hf).mp happ
  obtain ⟨hg, hn⟩ := and_e (Cond.before_iff.mp (show (Jvm.Cond.and given_1 narrow_1).before args s = true from hpre))
  obtain ⟨hcount, hg⟩ := and_e hg
  obtain ⟨ha0, hg⟩ := and_e hg
  obtain ⟨ha1, hg⟩ := and_e hg
  obtain ⟨ha2, hg⟩ := and_e hg
  have ha3 := hg
  obtain ⟨w0, w1, w2, w3, rfl⟩ : ∃ w0 w1 w2 w3 : Value, args = #[w0, w1, w2, w3] := by
    have hs : args.size = 4 := by simpa [Cond.value, given_1] using hcount
    obtain ⟨L⟩ := args
    match L, hs with
    | [w0, w1, w2, w3], _ => exact ⟨w0, w1, w2, w3, rfl⟩
  have hw := fun d (hd : d ∈ tables_1) => atoms_spec (ws := Jvm.Cond.code x code maxLocals ret :: tables_1) hat d (List.mem_cons_of_mem _ hd)
  have hfit : Fit s := fun {y c} hc i hi => by
    obtain ⟨ha, rfl⟩ := Array.getElem?_eq_some_iff.mp hc
    have q := List.all_eq_true.mp ((Array.all_eq_true_iff_forall_mem.mp hF) _ (Array.getElem_mem ha)) i (List.mem_range.mpr hi)
    simpa [Array.getElem?_eq_getElem hi] using q
  obtain ⟨i0, ei0⟩ := is_v ha0
  obtain rfl : w0 = (.int i0) := Option.some.inj ei0
  obtain ⟨i1, ei1⟩ := is_v ha1
  obtain rfl : w1 = (.int i1) := Option.some.inj ei1
  obtain ⟨i2, ei2⟩ := is_v ha2
  obtain rfl : w2 = (.int i2) := Option.some.inj ei2
  obtain ⟨i3, ei3⟩ := is_v ha3
  obtain rfl : w3 = (.int i3) := Option.some.inj ei3
  obtain ⟨n, o, h1, h2, h3, _, L, rfl, ⟨rfl, N⟩, hq⟩ := rm_law l s _ hw i0 i1 i2 i3  s.heap s.heap.size (Nat.le_refl _) tables_1 p e ha hc hk s m _ below hf ((Spec.applies_iff_loose hf).mp happ).1 ⟨rfl, State.Warmed39.refl s, rfl⟩ trivial
  refine ⟨n, _, h1, h2, h3, hpost _ _ _ _ _ _ ⟨Cond.after_iff.mpr rfl, Cond.after_iff.mpr (eq_i res_at (Term.int_eval (1)) rfl), trivial⟩ ⟨hq.1, hq.2.1, (hq.2.2.sift fun y hy => Or.inr (N y hy)).mono (by decide) (by decide)⟩⟩
theorem main_1_1 : Claimed_1_1 := comes_1 fun _ _ _ _ _ _ h hF => ⟨h.1, hF⟩
theorem main_1_2 : Claimed_1_2 := comes_1 fun _ _ _ _ _ _ h hF => ⟨h.2.1, hF⟩
end Jvm.Pilot.@@N@@
namespace Jvm.Pilot.@@N@@
open Jvm Jvm.ClassFile Sem Op Lib Jvm.Free Jvm.Stand Jvm.Pilot.@@N@@.Jvm.D
/-! MADE BY PROGRAM (witnessworld.py) out of the Statement's table words and the real class files: 13 classes; the members and pool entries that the words name. The judged class is class 1, her method 1. -/
namespace start1
open Jvm.ClassFile
def u (s : String) : CpInfo := .utf8 (stringToUtf16 s)
/-- a pool by its gaps: so many unusable entries, then the entry; so many at the end -/
def gap : Nat → List CpInfo → List CpInfo
  | 0, r => r
  | n + 1, r => .unusable :: gap n r
def poolList (es : List (Nat × CpInfo)) (last : Nat) : List CpInfo := es.foldr (fun e r => gap e.1 (e.2 :: r)) (gap last [])
def pool (es : List (Nat × CpInfo)) (last : Nat) : Array CpInfo := ⟨poolList es last⟩
def fileOf (pool : Array CpInfo) (this : Nat) (attrs : Array Attribute := #[]) (ms : Array MethodInfo := #[]) (fl : Nat := 33) (sup : Nat := 0) (ifs : Array Nat := #[]) (fds : Array FieldInfo := #[]) : ClassFile where
  minorVersion := 0
  majorVersion := 65
  constantPool := pool
  accessFlags := fl
  thisClass := this
  superClass := sup
  interfaces := ifs
  fields := fds
  methods := ms
  attributes := attrs
def plain (name : String) (sup : Option ClassId) : Class where
  name := name
  kind := .ordinary
  loader := none
  accessFlags := 33
  super := sup
  interfaces := #[]
  cf := none
  fields := #[]
  methods := #[]
  instanceTypes := #[]
  staticTypes := #[]
  resolved := #[]
  callSites := []
  init := .initialized
  statics := none
  mirror := none

def pool0 : Array CpInfo := pool [(5, u "<init>"), (0, u "()V"), (1, .class_ 10), (1, u "java/lang/Object")] 113

def k0c0 : Code := { maxStack := 0, maxLocals := 1, code := object_method_1_code, exceptionTable := #[], attributes := #[] }
def k0m0 : Method := { name := "<init>", desc := "()V", sig := { parameters := [], returnType := none }, accessFlags := 1, code := some k0c0 }
/-- java/lang/Object -/
def k0 : Class := { plain "java/lang/Object" none with
  accessFlags := 33
  interfaces := #[]
  cf := some (fileOf pool0 8 #[] #[{ accessFlags := 1, nameIndex := 5, descriptorIndex := 6, attributes := #[] }] 33 0 #[] #[])
  fields := #[]
  methods := #[k0m0]
  instanceTypes := #[]
  staticTypes := #[]
  resolved := Array.replicate 124 none
  statics := none }

def pool1 : Array CpInfo := pool [(2, .class_ 4), (0, .nameAndType 5 6), (0, u "java/lang/Object"), (0, u "<init>"), (0, u "()V"), (0, .class_ 8), (0, u "com/example/hueline/hueline/model/Degrees"), (0, .methodref 7 3), (0, .methodref 11 12), (0, .class_ 13), (0, .nameAndType 14 15), (0, u "java/lang/Math"), (0, u "min"), (0, u "(II)I"), (0, .methodref 7 17), (0, .nameAndType 18 15), (0, u "add"), (0, .methodref 7 20), (0, .nameAndType 21 22), (0, u "of"), (0, u "(I)I"), (0, .class_ 24), (0, u "com/example/hueline/hueline/model/DegreesOfPinLaw"), (2, u "law"), (0, u "(IIII)Z")] 3

def k1m0 : Method := { name := "<init>", desc := "()V", sig := { parameters := [], returnType := none }, accessFlags := 2, code := none }
def k1c1 : Code := { maxStack := 3, maxLocals := 15, code := code, exceptionTable := #[], attributes := #[] }
def k1m1 : Method := { name := "law", desc := "(IIII)Z", sig := { parameters := [.int, .int, .int, .int], returnType := some .boolean }, accessFlags := 9, code := some k1c1 }
/-- com/example/hueline/hueline/model/DegreesOfPinLaw -/
def k1 : Class := { plain "com/example/hueline/hueline/model/DegreesOfPinLaw" (some 0) with
  accessFlags := 49
  interfaces := #[]
  cf := some (fileOf pool1 23 #[] #[{ accessFlags := 2, nameIndex := 5, descriptorIndex := 6, attributes := #[] }, { accessFlags := 9, nameIndex := 27, descriptorIndex := 28, attributes := #[] }] 49 2 #[] #[])
  fields := #[]
  methods := #[k1m0, k1m1]
  instanceTypes := #[]
  staticTypes := #[]
  resolved := Array.replicate 32 none
  statics := none }

def pool2 : Array CpInfo := pool [(1, .methodref 2 3), (0, .class_ 4), (0, .nameAndType 5 6), (0, u "java/lang/Object"), (0, u "<init>"), (0, u "()V"), (0, .fieldref 8 9), (0, .class_ 10), (0, .nameAndType 11 12), (0, u "com/example/hueline/hueline/model/Degrees"), (0, u "counts"), (0, u "[I"), (0, .fieldref 8 14), (0, .nameAndType 15 12), (0, u "withDegree"), (0, .methodref 17 18), (0, .class_ 19), (0, .nameAndType 20 21), (0, u "com/example/hueline/hueline/model/BigArrays"), (0, u "grownLength"), (0, u "(IJ)I"), (0, .methodref 23 24), (0, .class_ 25), (0, .nameAndType 26 27), (0, u "java/util/Arrays"), (0, u "copyOf"), (0, u "([II)[I"), (0, .fieldref 8 29), (0, .nameAndType 30 31), (0, u "max"), (0, u "I"), (0, .methodref 33 34), (0, .class_ 35), (0, .nameAndType 30 36), (0, u "java/lang/Math"), (0, u "(II)I"), (2, u "add"), (1, u "of"), (0, u "(I)I")] 3

def k2c0 : Code := { maxStack := 2, maxLocals := 1, code := prog_38_method_1_code, exceptionTable := #[], attributes := #[] }
def k2m0 : Method := { name := "<init>", desc := "()V", sig := { parameters := [], returnType := none }, accessFlags := 0, code := some k2c0 }
def k2c1 : Code := { maxStack := 5, maxLocals := 5, code := prog_38_method_2_code, exceptionTable := #[], attributes := #[] }
def k2m1 : Method := { name := "add", desc := "(II)I", sig := { parameters := [.int, .int], returnType := some .int }, accessFlags := 0, code := some k2c1 }
def k2c2 : Code := { maxStack := 2, maxLocals := 2, code := prog_38_method_3_code, exceptionTable := #[], attributes := #[] }
def k2m2 : Method := { name := "of", desc := "(I)I", sig := { parameters := [.int], returnType := some .int }, accessFlags := 0, code := some k2c2 }
/-- com/example/hueline/hueline/model/Degrees -/
def k2 : Class := { plain "com/example/hueline/hueline/model/Degrees" (some 0) with
  accessFlags := 48
  interfaces := #[]
  cf := some (fileOf pool2 8 #[] #[{ accessFlags := 0, nameIndex := 5, descriptorIndex := 6, attributes := #[] }, { accessFlags := 0, nameIndex := 39, descriptorIndex := 36, attributes := #[] }, { accessFlags := 0, nameIndex := 41, descriptorIndex := 42, attributes := #[] }] 48 2 #[] #[{ accessFlags := 2, nameIndex := 11, descriptorIndex := 12, attributes := #[] }, { accessFlags := 2, nameIndex := 15, descriptorIndex := 12, attributes := #[] }, { accessFlags := 2, nameIndex := 30, descriptorIndex := 31, attributes := #[] }])
  fields := #[{ name := "counts", type := (.array .int), accessFlags := 2, slot := 0, constantValue := 0 }, { name := "withDegree", type := (.array .int), accessFlags := 2, slot := 1, constantValue := 0 }, { name := "max", type := .int, accessFlags := 2, slot := 2, constantValue := 0 }]
  methods := #[k2m0, k2m1, k2m2]
  instanceTypes := #[(.array .int), (.array .int), .int]
  staticTypes := #[]
  resolved := Array.replicate 46 none
  statics := none }

def pool3 : Array CpInfo := pool [(1, .class_ 2), (0, u "java/lang/Math"), (1, .class_ 6), (1, u "java/lang/Object"), (0, u "<init>"), (0, u "()V"), (89, .class_ 100), (1, u "java/lang/Math$RandomNumberGeneratorHolder"), (20, u "(JJ)J"), (50, u "negativeZeroFloatBits"), (0, u "J"), (2, u "negativeZeroDoubleBits"), (21, u "max"), (2, u "min"), (43, u "$assertionsDisabled"), (0, u "Z"), (88, u "(II)I"), (2, u "twoToTheDoubleScaleDown"), (0, u "D"), (4, u "twoToTheDoubleScaleUp"), (9, u "E"), (3, u "PI"), (2, u "TAU"), (2, u "DEGREES_TO_RADIANS"), (0, u "RADIANS_TO_DEGREES")] 94

def k3m0 : Method := { name := "<init>", desc := "()V", sig := { parameters := [], returnType := none }, accessFlags := 2, code := none }
def k3c1 : Code := { maxStack := 2, maxLocals := 2, code := jdk_29_method_65_code, exceptionTable := #[], attributes := #[] }
def k3m1 : Method := { name := "max", desc := "(II)I", sig := { parameters := [.int, .int], returnType := some .int }, accessFlags := 9, code := some k3c1 }
def k3c2 : Code := { maxStack := 4, maxLocals := 4, code := jdk_29_method_66_code, exceptionTable := #[], attributes := #[] }
def k3m2 : Method := { name := "max", desc := "(JJ)J", sig := { parameters := [.long, .long], returnType := some .long }, accessFlags := 9, code := some k3c2 }
def k3c3 : Code := { maxStack := 2, maxLocals := 2, code := jdk_29_method_69_code, exceptionTable := #[], attributes := #[] }
def k3m3 : Method := { name := "min", desc := "(II)I", sig := { parameters := [.int, .int], returnType := some .int }, accessFlags := 9, code := some k3c3 }
def k3c4 : Code := { maxStack := 4, maxLocals := 4, code := jdk_29_method_70_code, exceptionTable := #[], attributes := #[] }
def k3m4 : Method := { name := "min", desc := "(JJ)J", sig := { parameters := [.long, .long], returnType := some .long }, accessFlags := 9, code := some k3c4 }
/-- java/lang/Math -/
def k3 : Class := { plain "java/lang/Math" (some 0) with
  accessFlags := 49
  interfaces := #[]
  cf := some (fileOf pool3 1 #[.nestMembers #[98]] #[{ accessFlags := 2, nameIndex := 7, descriptorIndex := 8, attributes := #[] }, { accessFlags := 9, nameIndex := 198, descriptorIndex := 335, attributes := #[] }, { accessFlags := 9, nameIndex := 198, descriptorIndex := 121, attributes := #[] }, { accessFlags := 9, nameIndex := 201, descriptorIndex := 335, attributes := #[] }, { accessFlags := 9, nameIndex := 201, descriptorIndex := 121, attributes := #[] }] 49 4 #[] #[{ accessFlags := 25, nameIndex := 354, descriptorIndex := 339, attributes := #[] }, { accessFlags := 25, nameIndex := 358, descriptorIndex := 339, attributes := #[] }, { accessFlags := 25, nameIndex := 361, descriptorIndex := 339, attributes := #[] }, { accessFlags := 26, nameIndex := 364, descriptorIndex := 339, attributes := #[] }, { accessFlags := 26, nameIndex := 365, descriptorIndex := 339, attributes := #[] }, { accessFlags := 26, nameIndex := 172, descriptorIndex := 173, attributes := #[] }, { accessFlags := 26, nameIndex := 176, descriptorIndex := 173, attributes := #[] }, { accessFlags := 8, nameIndex := 344, descriptorIndex := 339, attributes := #[] }, { accessFlags := 8, nameIndex := 338, descriptorIndex := 339, attributes := #[] }, { accessFlags := 4120, nameIndex := 245, descriptorIndex := 246, attributes := #[] }])
  fields := #[{ name := "E", type := .double, accessFlags := 25, slot := 0, constantValue := 0 }, { name := "PI", type := .double, accessFlags := 25, slot := 1, constantValue := 0 }, { name := "TAU", type := .double, accessFlags := 25, slot := 2, constantValue := 0 }, { name := "DEGREES_TO_RADIANS", type := .double, accessFlags := 26, slot := 3, constantValue := 0 }, { name := "RADIANS_TO_DEGREES", type := .double, accessFlags := 26, slot := 4, constantValue := 0 }, { name := "negativeZeroFloatBits", type := .long, accessFlags := 26, slot := 5, constantValue := 0 }, { name := "negativeZeroDoubleBits", type := .long, accessFlags := 26, slot := 6, constantValue := 0 }, { name := "twoToTheDoubleScaleUp", type := .double, accessFlags := 8, slot := 7, constantValue := 0 }, { name := "twoToTheDoubleScaleDown", type := .double, accessFlags := 8, slot := 8, constantValue := 0 }, { name := "$assertionsDisabled", type := .boolean, accessFlags := 4120, slot := 9, constantValue := 0 }]
  methods := #[k3m0, k3m1, k3m2, k3m3, k3m4]
  instanceTypes := #[]
  staticTypes := #[.double, .double, .double, .double, .double, .long, .long, .double, .double, .boolean]
  resolved := Array.replicate 460 none
  statics := none }

def pool4 : Array CpInfo := pool [(4, .class_ 6), (1, u "java/lang/Object"), (0, u "<init>"), (0, u "()V"), (0, .class_ 10), (0, u "com/example/hueline/hueline/model/BigArrays"), (0, .long 2147483639), (10, .long 2), (1, .methodref 25 26), (0, .class_ 27), (0, .nameAndType 28 29), (0, u "java/lang/Math"), (0, u "max"), (0, u "(JJ)J"), (0, .methodref 25 31), (0, .nameAndType 32 29), (0, u "min"), (0, u "MAX_JAVA_LENGTH"), (0, u "I"), (4, u "grownLength"), (0, u "(IJ)I")] 18

def k4m0 : Method := { name := "<init>", desc := "()V", sig := { parameters := [], returnType := none }, accessFlags := 2, code := none }
def k4c1 : Code := { maxStack := 8, maxLocals := 3, code := prog_33_method_2_code, exceptionTable := #[], attributes := #[] }
def k4m1 : Method := { name := "grownLength", desc := "(IJ)I", sig := { parameters := [.int, .long], returnType := some .int }, accessFlags := 9, code := some k4c1 }
/-- com/example/hueline/hueline/model/BigArrays -/
def k4 : Class := { plain "com/example/hueline/hueline/model/BigArrays" (some 0) with
  accessFlags := 49
  interfaces := #[]
  cf := some (fileOf pool4 9 #[] #[{ accessFlags := 2, nameIndex := 7, descriptorIndex := 8, attributes := #[] }, { accessFlags := 9, nameIndex := 39, descriptorIndex := 40, attributes := #[] }] 49 4 #[] #[{ accessFlags := 25, nameIndex := 33, descriptorIndex := 34, attributes := #[] }])
  fields := #[{ name := "MAX_JAVA_LENGTH", type := .int, accessFlags := 25, slot := 0, constantValue := 0 }]
  methods := #[k4m0, k4m1]
  instanceTypes := #[]
  staticTypes := #[.int]
  resolved := Array.replicate 59 none
  statics := none }

def pool5 : Array CpInfo := pool [(2, .class_ 4), (1, u "java/lang/Object"), (0, u "<init>"), (0, u "()V"), (7, .class_ 16), (1, u "java/util/Arrays"), (57, .class_ 76), (1, u "java/util/Arrays$NaturalOrder"), (36, .class_ 115), (1, u "java/util/Arrays$LegacyMergeSort"), (1, u "Z"), (32, .methodref 151 152), (0, .class_ 153), (0, .nameAndType 154 155), (0, u "java/lang/System"), (0, u "arraycopy"), (0, u "(Ljava/lang/Object;ILjava/lang/Object;II)V"), (146, u "copyOf"), (1, .methodref 305 306), (0, .class_ 307), (0, .nameAndType 308 309), (0, u "java/lang/Math"), (0, u "min"), (0, u "(II)I"), (65, .class_ 376), (0, u "java/util/Arrays$ArrayList"), (68, u "$assertionsDisabled"), (269, u "MIN_ARRAY_SORT_GRAN"), (0, u "I"), (2, u "INSERTIONSORT_THRESHOLD"), (151, u "([II)[I"), (103, .class_ 976), (0, u "java/util/Arrays$ArrayItr")] 52

def k5m0 : Method := { name := "<init>", desc := "()V", sig := { parameters := [], returnType := none }, accessFlags := 2, code := none }
def k5c1 : Code := { maxStack := 6, maxLocals := 3, code := jdk_65_method_123_code, exceptionTable := #[], attributes := #[] }
def k5m1 : Method := { name := "copyOf", desc := "([II)[I", sig := { parameters := [(.array .int), .int], returnType := some (.array .int) }, accessFlags := 9, code := some k5c1 }
/-- java/util/Arrays -/
def k5 : Class := { plain "java/util/Arrays" (some 0) with
  accessFlags := 49
  interfaces := #[]
  cf := some (fileOf pool5 14 #[.nestMembers #[975, 375, 113, 74]] #[{ accessFlags := 2, nameIndex := 5, descriptorIndex := 6, attributes := #[] }, { accessFlags := 9, nameIndex := 302, descriptorIndex := 871, attributes := #[] }] 49 2 #[] #[{ accessFlags := 26, nameIndex := 715, descriptorIndex := 716, attributes := #[] }, { accessFlags := 26, nameIndex := 719, descriptorIndex := 716, attributes := #[] }, { accessFlags := 4120, nameIndex := 445, descriptorIndex := 117, attributes := #[] }])
  fields := #[{ name := "MIN_ARRAY_SORT_GRAN", type := .int, accessFlags := 26, slot := 0, constantValue := 0 }, { name := "INSERTIONSORT_THRESHOLD", type := .int, accessFlags := 26, slot := 1, constantValue := 0 }, { name := "$assertionsDisabled", type := .boolean, accessFlags := 4120, slot := 2, constantValue := 0 }]
  methods := #[k5m0, k5m1]
  instanceTypes := #[]
  staticTypes := #[.int, .int, .boolean]
  resolved := Array.replicate 1029 none
  statics := none }

def pool6 : Array CpInfo := pool [(2, .class_ 4), (1, u "java/lang/Object"), (0, u "<init>"), (0, u "()V"), (1, .class_ 10), (1, u "java/lang/System"), (0, u "allowSecurityManager"), (0, u "I"), (16, u "cons"), (0, u "Ljava/io/Console;"), (77, .class_ 110), (1, u "java/lang/System$CallersHolder"), (43, u "initialErrStream"), (0, u "Ljava/io/PrintStream;"), (19, u "security"), (0, u "Ljava/lang/SecurityManager;"), (31, .class_ 209), (0, u "java/lang/System$1"), (7, u "props"), (0, u "Ljava/util/Properties;"), (2, u "lineSeparator"), (0, u "Ljava/lang/String;"), (96, .class_ 321), (1, u "java/lang/System$LoggerFinder"), (5, .class_ 328), (0, u "java/lang/System$Logger"), (67, u "err"), (2, u "out"), (91, u "notSupportedJnuEncoding"), (15, u "in"), (17, u "initialIn"), (0, u "Ljava/io/InputStream;"), (35, u "bootLayer"), (0, u "Ljava/lang/ModuleLayer;"), (99, .class_ 664), (0, u "java/lang/System$2"), (9, u "NEVER"), (2, u "MAYBE"), (49, u "arraycopy"), (0, u "(Ljava/lang/Object;ILjava/lang/Object;II)V"), (72, .class_ 802), (0, u "java/lang/System$Logger$Level")] 31

def k6m0 : Method := { name := "<init>", desc := "()V", sig := { parameters := [], returnType := none }, accessFlags := 2, code := none }
def k6m1 : Method := { name := "arraycopy", desc := "(Ljava/lang/Object;ILjava/lang/Object;II)V", sig := { parameters := [(.object "java/lang/Object"), .int, (.object "java/lang/Object"), .int, .int], returnType := none }, accessFlags := 265, code := none }
/-- java/lang/System -/
def k6 : Class := { plain "java/lang/System" (some 0) with
  accessFlags := 49
  interfaces := #[]
  cf := some (fileOf pool6 8 #[.nestMembers #[319, 327, 801, 108, 663, 208]] #[{ accessFlags := 2, nameIndex := 5, descriptorIndex := 6, attributes := #[] }, { accessFlags := 265, nameIndex := 727, descriptorIndex := 728, attributes := #[] }] 49 2 #[] #[{ accessFlags := 25, nameIndex := 507, descriptorIndex := 526, attributes := #[] }, { accessFlags := 25, nameIndex := 399, descriptorIndex := 155, attributes := #[] }, { accessFlags := 25, nameIndex := 396, descriptorIndex := 155, attributes := #[] }, { accessFlags := 10, nameIndex := 525, descriptorIndex := 526, attributes := #[] }, { accessFlags := 26, nameIndex := 674, descriptorIndex := 12, attributes := #[] }, { accessFlags := 26, nameIndex := 677, descriptorIndex := 12, attributes := #[] }, { accessFlags := 10, nameIndex := 11, descriptorIndex := 12, attributes := #[] }, { accessFlags := 74, nameIndex := 175, descriptorIndex := 176, attributes := #[] }, { accessFlags := 10, nameIndex := 491, descriptorIndex := 222, attributes := #[] }, { accessFlags := 74, nameIndex := 29, descriptorIndex := 30, attributes := #[] }, { accessFlags := 74, nameIndex := 154, descriptorIndex := 155, attributes := #[] }, { accessFlags := 10, nameIndex := 217, descriptorIndex := 218, attributes := #[] }, { accessFlags := 10, nameIndex := 221, descriptorIndex := 222, attributes := #[] }, { accessFlags := 8, nameIndex := 562, descriptorIndex := 563, attributes := #[] }])
  fields := #[{ name := "in", type := (.object "java/io/InputStream"), accessFlags := 25, slot := 0, constantValue := 0 }, { name := "out", type := (.object "java/io/PrintStream"), accessFlags := 25, slot := 1, constantValue := 0 }, { name := "err", type := (.object "java/io/PrintStream"), accessFlags := 25, slot := 2, constantValue := 0 }, { name := "initialIn", type := (.object "java/io/InputStream"), accessFlags := 10, slot := 3, constantValue := 0 }, { name := "NEVER", type := .int, accessFlags := 26, slot := 4, constantValue := 0 }, { name := "MAYBE", type := .int, accessFlags := 26, slot := 5, constantValue := 0 }, { name := "allowSecurityManager", type := .int, accessFlags := 10, slot := 6, constantValue := 0 }, { name := "security", type := (.object "java/lang/SecurityManager"), accessFlags := 74, slot := 7, constantValue := 0 }, { name := "notSupportedJnuEncoding", type := (.object "java/lang/String"), accessFlags := 10, slot := 8, constantValue := 0 }, { name := "cons", type := (.object "java/io/Console"), accessFlags := 74, slot := 9, constantValue := 0 }, { name := "initialErrStream", type := (.object "java/io/PrintStream"), accessFlags := 74, slot := 10, constantValue := 0 }, { name := "props", type := (.object "java/util/Properties"), accessFlags := 10, slot := 11, constantValue := 0 }, { name := "lineSeparator", type := (.object "java/lang/String"), accessFlags := 10, slot := 12, constantValue := 0 }, { name := "bootLayer", type := (.object "java/lang/ModuleLayer"), accessFlags := 8, slot := 13, constantValue := 0 }]
  methods := #[k6m0, k6m1]
  instanceTypes := #[]
  staticTypes := #[(.object "java/io/InputStream"), (.object "java/io/PrintStream"), (.object "java/io/PrintStream"), (.object "java/io/InputStream"), .int, .int, .int, (.object "java/lang/SecurityManager"), (.object "java/lang/String"), (.object "java/io/Console"), (.object "java/io/PrintStream"), (.object "java/util/Properties"), (.object "java/lang/String"), (.object "java/lang/ModuleLayer")]
  resolved := Array.replicate 834 none
  statics := none }

def pool7 : Array CpInfo := pool [(1, u "java/lang/Cloneable"), (0, .class_ 1), (0, u "java/lang/Object"), (0, .class_ 3)] 3

/-- java/lang/Cloneable -/
def k7 : Class := { plain "java/lang/Cloneable" (some 0) with
  accessFlags := 1537
  interfaces := #[]
  cf := some (fileOf pool7 2 #[] #[] 1537 4 #[] #[])
  fields := #[]
  methods := #[]
  instanceTypes := #[]
  staticTypes := #[]
  resolved := Array.replicate 8 none
  statics := none }

def pool8 : Array CpInfo := pool [(1, u "java/io/Serializable"), (0, .class_ 1), (0, u "java/lang/Object"), (0, .class_ 3)] 3

/-- java/io/Serializable -/
def k8 : Class := { plain "java/io/Serializable" (some 0) with
  accessFlags := 1537
  interfaces := #[]
  cf := some (fileOf pool8 2 #[] #[] 1537 4 #[] #[])
  fields := #[]
  methods := #[]
  instanceTypes := #[]
  staticTypes := #[]
  resolved := Array.replicate 8 none
  statics := none }

/-- the primitive byte -/
def k9 : Class := { plain "byte" none with kind := .primitive 'B', accessFlags := 0x411 }
/-- [B -/
def k10 : Class := { plain "[B" (some 0) with kind := .array 9 .byte, interfaces := #[7, 8], accessFlags := 1041 }

/-- the primitive int -/
def k11 : Class := { plain "int" none with kind := .primitive 'I', accessFlags := 0x411 }
/-- [I -/
def k12 : Class := { plain "[I" (some 0) with kind := .array 11 .int, interfaces := #[7, 8], accessFlags := 1041 }

def heap : Heap := #[]
def classes : Array Class := #[k0, k1, k2, k3, k4, k5, k6, k7, k8, k9, k10, k11, k12]
def interned : List (Array UInt16 × Addr) := []
def slotsUsed : Nat := 0
def theMethod : MethodId := ⟨1, 1⟩
def args0 : Array Value := #[.int 5, .int 9, .int 300, .int 7]
def aboutOver (below : List Frame) : State where
  vm := { classes := classes, interned := interned.toArray }
  heap := heap
  slotsUsed := slotsUsed
  threads := #[{ frames := .invoking theMethod args0 :: below }]
def below0 : List Frame := [.native { method := ⟨0, 0⟩, args := #[] }]
def about1 : State := aboutOver below0
def p0 : Program := .bare "" "" ""
def e0 : Env := launch0.env 0 0 0
theorem w_frames : about1.frames = Frame.invoking theMethod args0 :: below0 := rfl
set_option maxRecDepth 65536 in
theorem w_args : argsFit about1.vm theMethod args0 = true := by decide +kernel
set_option maxRecDepth 65536 in
theorem w_heap : heapFits about1 = true := by decide +kernel
set_option maxRecDepth 65536 in
theorem w_runnable : about1.curStatus? = some .runnable := by decide +kernel
set_option maxRecDepth 65536 in
theorem w_alone : about1.alone = true := by decide +kernel
set_option maxRecDepth 65536 in
theorem w_named : about1.methodNamed? x = some theMethod := by decide +kernel
set_option maxRecDepth 65536 in
theorem w_hears : about1.hears theMethod below0 = true := by decide +kernel
set_option maxRecDepth 65536 in
theorem w_ripe : about1.ripe theMethod args0 below0 = true := by decide +kernel
theorem w_running : about1.status = .running := rfl
set_option maxRecDepth 65536 in
theorem w_room : about1.hasRoom e0.platform room_1 = true :=
  launch0.hasRoom_least _ room_1 (by decide +kernel) (by decide +kernel) (by decide +kernel) (by decide +kernel) (by decide +kernel) (by decide +kernel)
theorem allAtoms_all (ts : List Jvm.Cond) (a : Array Jvm.Value) (st : Jvm.State) : (allAtoms ts).before a st = ts.all (fun c => c.before a st) := by
  induction ts with
  | nil => rfl
  | cons c t ih =>
    show (Jvm.Cond.and c (allAtoms t)).before a st = _
    rw [Jvm.Cond.before_and, ih, List.all_cons]
def words1 : List Jvm.Cond := Jvm.Cond.code x code maxLocals ret :: tables_1
/-- a 'code' word, met by the world's own term for the bytes: nothing is compared byte by byte -/
theorem code_word {y : MethodName} {bytes : ByteArray} {mx : Nat} {rt : Option FieldType} {a : Array Value} {s : State} {m : MethodId} {meth : Method} {c : Code} (h1 : s.methodNamed? y = some m) (h2 : s.vm.method? m = some meth) (h3 : meth.code = some c) (h4 : c.code = bytes)
    (h5 : (c.maxLocals == mx && c.exceptionTable.isEmpty && decide (c.maxStack ≤ mostOperands) && decide (meth.sig.returnType = rt) && !meth.locks && decide (parseMethodDescriptor y.desc = some meth.sig)) = true) : (Jvm.Cond.code y bytes mx rt).before a s = true := by
  simp only [Bool.and_eq_true, beq_iff_eq, Bool.not_eq_true', decide_eq_true_eq] at h5
  obtain ⟨⟨⟨⟨⟨g1, g2⟩, g3⟩, g4⟩, g5⟩, g6⟩ := h5
  simp [Cond.before, Cond.holds, Cond.value, h1, h2, h3, h4, g1, g2, g3, g4, g5, g6]
def isCode : Jvm.Cond → Bool
  | .code _ _ _ _ => true
  | _ => false
theorem all_split {L : List Jvm.Cond} {P : Jvm.Cond → Bool} (h1 : L.all (fun c => isCode c || P c) = true) (h2 : ∀ c ∈ L.filter isCode, P c = true) : L.all P = true := by
  refine List.all_eq_true.mpr fun c hc => ?_
  have h := List.all_eq_true.mp h1 c hc
  rcases Bool.eq_false_or_eq_true (isCode c) with hi | hi
  · exact h2 c (List.mem_filter.mpr ⟨hc, hi⟩)
  · simpa [hi] using h
set_option maxRecDepth 65536 in
theorem w_c0 : (Jvm.Cond.code x code maxLocals ret).before args0 about1 = true := code_word (m := ⟨1, 1⟩) (meth := k1m1) (c := k1c1) (by decide +kernel) rfl rfl rfl (by decide +kernel)
set_option maxRecDepth 65536 in
theorem w_c1 : (Jvm.Cond.code ({ cls := "com/example/hueline/hueline/model/Degrees", name := "<init>", desc := "()V" } : Jvm.MethodName) prog_38_method_1_code (1 : Nat) (Option.none : Option Jvm.ClassFile.FieldType)).before args0 about1 = true := code_word (m := ⟨2, 0⟩) (meth := k2m0) (c := k2c0) (by decide +kernel) rfl rfl rfl (by decide +kernel)
set_option maxRecDepth 65536 in
theorem w_c2 : (Jvm.Cond.code ({ cls := "java/lang/Object", name := "<init>", desc := "()V" } : Jvm.MethodName) object_method_1_code (1 : Nat) (Option.none : Option Jvm.ClassFile.FieldType)).before args0 about1 = true := code_word (m := ⟨0, 0⟩) (meth := k0m0) (c := k0c0) (by decide +kernel) rfl rfl rfl (by decide +kernel)
set_option maxRecDepth 65536 in
theorem w_c3 : (Jvm.Cond.code ({ cls := "java/lang/Math", name := "min", desc := "(II)I" } : Jvm.MethodName) jdk_29_method_69_code (2 : Nat) (Option.some Jvm.ClassFile.FieldType.int)).before args0 about1 = true := code_word (m := ⟨3, 3⟩) (meth := k3m3) (c := k3c3) (by decide +kernel) rfl rfl rfl (by decide +kernel)
set_option maxRecDepth 65536 in
theorem w_c4 : (Jvm.Cond.code ({ cls := "com/example/hueline/hueline/model/Degrees", name := "add", desc := "(II)I" } : Jvm.MethodName) prog_38_method_2_code (5 : Nat) (Option.some Jvm.ClassFile.FieldType.int)).before args0 about1 = true := code_word (m := ⟨2, 1⟩) (meth := k2m1) (c := k2c1) (by decide +kernel) rfl rfl rfl (by decide +kernel)
set_option maxRecDepth 65536 in
theorem w_c5 : (Jvm.Cond.code ({ cls := "java/lang/Math", name := "max", desc := "(II)I" } : Jvm.MethodName) jdk_29_method_65_code (2 : Nat) (Option.some Jvm.ClassFile.FieldType.int)).before args0 about1 = true := code_word (m := ⟨3, 1⟩) (meth := k3m1) (c := k3c1) (by decide +kernel) rfl rfl rfl (by decide +kernel)
set_option maxRecDepth 65536 in
theorem w_c6 : (Jvm.Cond.code ({ cls := "com/example/hueline/hueline/model/Degrees", name := "of", desc := "(I)I" } : Jvm.MethodName) prog_38_method_3_code (2 : Nat) (Option.some Jvm.ClassFile.FieldType.int)).before args0 about1 = true := code_word (m := ⟨2, 2⟩) (meth := k2m2) (c := k2c2) (by decide +kernel) rfl rfl rfl (by decide +kernel)
set_option maxRecDepth 65536 in
theorem w_c7 : (Jvm.Cond.code ({ cls := "com/example/hueline/hueline/model/BigArrays", name := "grownLength", desc := "(IJ)I" } : Jvm.MethodName) prog_33_method_2_code (3 : Nat) (Option.some Jvm.ClassFile.FieldType.int)).before args0 about1 = true := code_word (m := ⟨4, 1⟩) (meth := k4m1) (c := k4c1) (by decide +kernel) rfl rfl rfl (by decide +kernel)
set_option maxRecDepth 65536 in
theorem w_c8 : (Jvm.Cond.code ({ cls := "java/lang/Math", name := "max", desc := "(JJ)J" } : Jvm.MethodName) jdk_29_method_66_code (4 : Nat) (Option.some Jvm.ClassFile.FieldType.long)).before args0 about1 = true := code_word (m := ⟨3, 2⟩) (meth := k3m2) (c := k3c2) (by decide +kernel) rfl rfl rfl (by decide +kernel)
set_option maxRecDepth 65536 in
theorem w_c9 : (Jvm.Cond.code ({ cls := "java/lang/Math", name := "min", desc := "(JJ)J" } : Jvm.MethodName) jdk_29_method_70_code (4 : Nat) (Option.some Jvm.ClassFile.FieldType.long)).before args0 about1 = true := code_word (m := ⟨3, 4⟩) (meth := k3m4) (c := k3c4) (by decide +kernel) rfl rfl rfl (by decide +kernel)
set_option maxRecDepth 65536 in
theorem w_c10 : (Jvm.Cond.code ({ cls := "java/util/Arrays", name := "copyOf", desc := "([II)[I" } : Jvm.MethodName) jdk_65_method_123_code (3 : Nat) (Option.some (Jvm.ClassFile.FieldType.array Jvm.ClassFile.FieldType.int))).before args0 about1 = true := code_word (m := ⟨5, 1⟩) (meth := k5m1) (c := k5c1) (by decide +kernel) rfl rfl rfl (by decide +kernel)
def codes1 : List Jvm.Cond := [Jvm.Cond.code x code maxLocals ret, Jvm.Cond.code ({ cls := "com/example/hueline/hueline/model/Degrees", name := "<init>", desc := "()V" } : Jvm.MethodName) prog_38_method_1_code (1 : Nat) (Option.none : Option Jvm.ClassFile.FieldType), Jvm.Cond.code ({ cls := "java/lang/Object", name := "<init>", desc := "()V" } : Jvm.MethodName) object_method_1_code (1 : Nat) (Option.none : Option Jvm.ClassFile.FieldType), Jvm.Cond.code ({ cls := "java/lang/Math", name := "min", desc := "(II)I" } : Jvm.MethodName) jdk_29_method_69_code (2 : Nat) (Option.some Jvm.ClassFile.FieldType.int), Jvm.Cond.code ({ cls := "com/example/hueline/hueline/model/Degrees", name := "add", desc := "(II)I" } : Jvm.MethodName) prog_38_method_2_code (5 : Nat) (Option.some Jvm.ClassFile.FieldType.int), Jvm.Cond.code ({ cls := "java/lang/Math", name := "max", desc := "(II)I" } : Jvm.MethodName) jdk_29_method_65_code (2 : Nat) (Option.some Jvm.ClassFile.FieldType.int), Jvm.Cond.code ({ cls := "com/example/hueline/hueline/model/Degrees", name := "of", desc := "(I)I" } : Jvm.MethodName) prog_38_method_3_code (2 : Nat) (Option.some Jvm.ClassFile.FieldType.int), Jvm.Cond.code ({ cls := "com/example/hueline/hueline/model/BigArrays", name := "grownLength", desc := "(IJ)I" } : Jvm.MethodName) prog_33_method_2_code (3 : Nat) (Option.some Jvm.ClassFile.FieldType.int), Jvm.Cond.code ({ cls := "java/lang/Math", name := "max", desc := "(JJ)J" } : Jvm.MethodName) jdk_29_method_66_code (4 : Nat) (Option.some Jvm.ClassFile.FieldType.long), Jvm.Cond.code ({ cls := "java/lang/Math", name := "min", desc := "(JJ)J" } : Jvm.MethodName) jdk_29_method_70_code (4 : Nat) (Option.some Jvm.ClassFile.FieldType.long), Jvm.Cond.code ({ cls := "java/util/Arrays", name := "copyOf", desc := "([II)[I" } : Jvm.MethodName) jdk_65_method_123_code (3 : Nat) (Option.some (Jvm.ClassFile.FieldType.array Jvm.ClassFile.FieldType.int))]
set_option maxRecDepth 65536 in
theorem codes_eq : words1.filter isCode = codes1 := rfl
theorem w_codes : ∀ c ∈ words1.filter isCode, c.before args0 about1 = true := by
  rw [codes_eq]
  intro c hc
  simp only [codes1, List.mem_cons, List.not_mem_nil, or_false] at hc
  rcases hc with rfl | rfl | rfl | rfl | rfl | rfl | rfl | rfl | rfl | rfl | rfl
  · exact w_c0
  · exact w_c1
  · exact w_c2
  · exact w_c3
  · exact w_c4
  · exact w_c5
  · exact w_c6
  · exact w_c7
  · exact w_c8
  · exact w_c9
  · exact w_c10
set_option maxRecDepth 65536 in
theorem w_t1 : (words1.take 24).all (fun c => isCode c || c.before args0 about1) = true := by decide +kernel
set_option maxRecDepth 65536 in
theorem w_t2 : ((words1.drop 24).take 24).all (fun c => isCode c || c.before args0 about1) = true := by decide +kernel
set_option maxRecDepth 65536 in
theorem w_t3 : ((words1.drop 24).drop 24).all (fun c => isCode c || c.before args0 about1) = true := by decide +kernel
theorem w_tables : (allAtoms (Jvm.Cond.code x code maxLocals ret :: tables_1)).before args0 about1 = true := by
  rw [allAtoms_all]
  show words1.all (fun c => c.before args0 about1) = true
  refine all_split ?_ w_codes
  rw [← List.take_append_drop 24 words1, List.all_append, w_t1, ← List.take_append_drop 24 (words1.drop 24), List.all_append, w_t2, w_t3]
  rfl
set_option maxRecDepth 65536 in
theorem w_case : (Jvm.Cond.and given_1 narrow_1).before args0 about1 = true := by decide +kernel
theorem w_applies : (headSpec (Jvm.Cond.code x code maxLocals ret :: tables_1) room_1).applies x e0.platform about1 = true :=
  (Spec.applies_iff w_frames).mpr ⟨w_running, w_runnable, w_alone, w_named, w_hears, w_ripe, w_room, w_tables⟩
theorem atStart : AtStart classFile x code maxLocals ret World_1 tables_1 room_1 Calls_1 rest_1 Pre_1 launch0 p0 e0 about1 theMethod args0 below0 :=
  ⟨lists_1, trivial, launch0.admits_env _ _ _, launch0.least_env, fairChoices_fair.cas, fairChoices_fair.clock, w_frames, w_args, w_heap, w_applies, trivial, trivial, w_case⟩
end start1
theorem witness_1 : WitnessClaimed_1 := ⟨start1.p0, start1.e0, start1.about1, start1.theMethod, start1.args0, start1.below0, start1.atStart⟩
end Jvm.Pilot.@@N@@
