import JvmDerived
import JvmDerived.Pilot.@@N@@Statement
import JvmDerived.Pilot.@@N@@Code
set_option linter.unusedVariables false
set_option linter.unusedSimpArgs false
set_option maxHeartbeats 40000000
namespace Jvm.RoadKit
open Sem ClassFile Op Lib Jvm.Stand Jvm.Free Jvm.LawKit
section New
variable {p : Program} {l : Launch} {e : Env} {R : Room} {s : State} {m : MethodId} {args : Array Value} {below : List Frame} {meth : Method} {c : Code} {T : State} {locs : List Loc} {cells slots : Nat}
theorem retI (X : Stand p l e R s m args below meth c T locs cells slots) (hx : p.tables.exec = Jvm.exec) {pc : Nat} {Ls : Array Slot} {z : Int32} {rest : List Value} (hret : meth.sig.returnType = some .int) (hd : decode c.code pc = .ok (.ireturn, 1)) {fs : List Frame}
    (hl : ∀ (f : JFrame) (acts : List Action), f.method = m → f.locked = none → f.entered = [] → (doReturn e (T.setTop f) acts (some (.int z))).1 = T.setFrames fs) : Steps p.tables e below (T.setTop (mkF m pc Ls (.int z :: rest))) (T.setFrames fs) := by
  have hm' : T.vm.method? m = some meth := X.method'
  have hn : narrow .int (.int z) = .int z := rfl
  show Steps p.tables e below (T.setTop { method := m, pc := pc, locals := Ls, stack := _ :: rest, locked := none }) _
  jvm_step X.here [X.here.top, hx, hd, hm', hret, hn]
  first | (intro acts; rw [hl _ acts rfl rfl rfl]) | rw [hl _ _ rfl rfl rfl]
  exact Steps.refl _
end New
end Jvm.RoadKit
namespace Jvm.Pilot.@@N@@
open Jvm Jvm.ClassFile Sem Op Lib Jvm.Free Jvm.Stand Jvm.LawKit Jvm.RoadKit Bundle Jvm.Pilot.@@N@@.Jvm.D
/-! a run that ends well: what this text is made of -/
def own_Run (p : Program) (e : Env) (below : List Frame) (Φ : State → Prop) (S : State) : Prop := ∃ t, Steps p.tables e below S t ∧ Φ t
def own_Fin (s : State) (below : List Frame) (C D : Nat) (Q : Option Value → Heap → List Loc → Prop) (t : State) : Prop :=
  t.status = .running ∧ ∃ v L, Ended t below (.returned v) ∧ Q v t.heap L ∧ FrameEnd s (.returned v) t L C D
def own_Met (l : Launch) (Z : State) (y : MethodName) (bytes : ByteArray) (maxL : Nat) (ret : Option FieldType) (rm : Room) (as : Array Value) (h : Heap) (Q : Option Value → Heap → List Loc → Prop) : Prop :=
  ∀ ws : List Jvm.Cond, MetFree l y (head1 (Jvm.Cond.code y bytes maxL ret :: ws) rm) (fun a U => a = as ∧ Z.Warmed39 U.vm ∧ U.heap = h) (fun _ _ _ _ _ => True) (fun _ U o U' => ∃ v L, o = .returned v ∧ Q v U'.heap L ∧ FrameEnd U o U' L rm.cells rm.slots)
section OwnRun
variable {p : Program} {l : Launch} {e : Env} {R : Room} {s : State} {m : MethodId} {args : Array Value} {below : List Frame} {meth : Method} {c : Code} {T : State} {locs : List Loc} {cells slots : Nat} {Φ : State → Prop} {S S' : State} {Z : State} {a0 : Array Value} {h : Heap}
theorem own_go (st : ∀ t, Steps p.tables e below S' t → Steps p.tables e below S t) (r : own_Run p e below Φ S') : own_Run p e below Φ S := r.elim fun t q => ⟨t, st t q.1, q.2⟩
theorem own_via (st : Steps p.tables e below S S') (r : own_Run p e below Φ S') : own_Run p e below Φ S := r.elim fun t q => ⟨t, st.trans q.1, q.2⟩
theorem own_cast {g g' : JFrame} (q : g = g') (r : own_Run p e below Φ (T.setTop g')) : own_Run p e below Φ (T.setTop g) := q ▸ r
theorem own_body {C D : Nat} {Q : Option Value → Heap → List Loc → Prop} (r : own_Run p e below (own_Fin s below C D Q) S) :
    ∃ s₂ o, Steps p.tables e below S s₂ ∧ s₂.status = .running ∧ Ended s₂ below o ∧ ∃ v L, o = .returned v ∧ Q v s₂.heap L ∧ FrameEnd s o s₂ L C D := by
  obtain ⟨t, q1, q2, v, L, q3, q4, q5⟩ := r
  exact ⟨t, _, q1, q2, q3, v, L, rfl, q4, q5⟩
variable {C D : Nat} {Q : Option Value → Heap → List Loc → Prop}
theorem own_retI (X : Stand p l e R s m args below meth c T locs cells slots) (hx : p.tables.exec = Jvm.exec) (hret : meth.sig.returnType = some .int) (hlk : meth.locks = false) {pc : Nat} {Ls : Array Slot} {z : Int32} {rest : List Value} (hd : decode c.code pc = .ok (.ireturn, 1)) (eT : T.heap = h) (hq : Q (some (.int z)) h locs) (hc : cells ≤ C) (hs : slots ≤ D) :
    own_Run p e below (own_Fin s below C D Q) (T.setTop (mkF m pc Ls (.int z :: rest))) := by
  obtain ⟨fs, hr, hrun, hended, hW, hsame⟩ := X.leave (v := some (.int z)) (fun q => by rw [hret] at q; cases q) hlk
  exact ⟨_, retI X hx hret hd hr, hrun, _, _, hended, by show Q _ T.heap _; rw [eT]; exact hq, ⟨_, rfl⟩, hW, hsame.mono hc hs⟩
theorem own_retN (X : Stand p l e R s m args below meth c T locs cells slots) (hx : p.tables.exec = Jvm.exec) {t : FieldType} (hret : meth.sig.returnType = some t) (ht : t = .boolean ∨ t = .byte ∨ t = .char ∨ t = .short) (hlk : meth.locks = false) {pc : Nat} {Ls : Array Slot} {z : Int32} {rest : List Value} (hd : decode c.code pc = .ok (.ireturn, 1)) (eT : T.heap = h) (hq : Q (some (.int (nar t z))) h locs) (hc : cells ≤ C) (hs : slots ≤ D) :
    own_Run p e below (own_Fin s below C D Q) (T.setTop (mkF m pc Ls (.int z :: rest))) := by
  obtain ⟨fs, hr, hrun, hended, hW, hsame⟩ := X.leave (v := some (.int (nar t z))) (fun q => by rw [hret] at q; cases q) hlk
  exact ⟨_, retN X hx hret ht hd hr, hrun, _, _, hended, by show Q _ T.heap _; rw [eT]; exact hq, ⟨_, rfl⟩, hW, hsame.mono hc hs⟩
theorem own_retV (X : Stand p l e R s m args below meth c T locs cells slots) (hx : p.tables.exec = Jvm.exec) (hret : meth.sig.returnType = none) (hlk : meth.locks = false) {pc : Nat} {Ls : Array Slot} (hd : decode c.code pc = .ok (.return_, 1)) (eT : T.heap = h) (hq : Q none h locs) (hc : cells ≤ C) (hs : slots ≤ D) :
    own_Run p e below (own_Fin s below C D Q) (T.setTop (mkF m pc Ls [])) := by
  obtain ⟨fs, hr, hrun, hended, hW, hsame⟩ := X.leave (v := none) (fun _ => rfl) hlk
  exact ⟨_, X.returnOut hx hret hd hr, hrun, _, _, hended, by show Q _ T.heap _; rw [eT]; exact hq, ⟨_, rfl⟩, hW, hsame.mono hc hs⟩
theorem own_retO (X : Stand p l e R s m args below meth c T locs cells slots) (hx : p.tables.exec = Jvm.exec) {t : FieldType} {i : Instr} {w : Value} (hret : meth.sig.returnType = some t) (hn : narrow t w = w)
    (hi : (i = .ireturn ∧ (t = .int ∨ t = .boolean ∨ t = .byte ∨ t = .char ∨ t = .short) ∧ ∃ z, w = .int z) ∨ (i = .lreturn ∧ t = .long ∧ ∃ z, w = .long z) ∨ (i = .dreturn ∧ t = .double ∧ ∃ z, w = .double z) ∨ (i = .freturn ∧ t = .float ∧ ∃ z, w = .float z) ∨ (i = .areturn ∧ t.isReference = true ∧ w.isRef = true))
    (hlk : meth.locks = false) {pc : Nat} {Ls : Array Slot} {rest : List Value} (hd : decode c.code pc = .ok (i, 1)) (eT : T.heap = h) (hq : Q (some w) h locs) (hc : cells ≤ C) (hs : slots ≤ D) :
    own_Run p e below (own_Fin s below C D Q) (T.setTop (mkF m pc Ls (w :: rest))) := by
  obtain ⟨fs, hr, hrun, hended, hW, hsame⟩ := X.leave (v := some w) (fun q => by rw [hret] at q; cases q) hlk
  exact ⟨_, retOut X hx hret hn hi hd hr, hrun, _, _, hended, by show Q _ T.heap _; rw [eT]; exact hq, ⟨_, rfl⟩, hW, hsame.mono hc hs⟩
/-- who pays a call -/
def own_Bk (l : Launch) (R : Room) (p : Program) (e : Env) (below : List Frame) (s : State) (args : Array Value) (y : MethodName) (W : Nat) (as : Array Value) (h : Heap) (cc ss : Nat) (Q : Option Value → Heap → List Loc → Prop) : Prop :=
  Back l R p e below s args y 3 W (fun A a => a = as ∧ A.U.heap = h ∧ A.cells + cc ≤ R.cells ∧ A.slots + ss ≤ R.slots) (fun A _ v B => ∃ L, Q v B.U.heap L ∧ B.locs = A.locs ++ L ∧ B.cells = A.cells + cc ∧ B.slots = A.slots + ss)
theorem own_bk {y : MethodName} {bytes : ByteArray} {maxL : Nat} {ret : Option FieldType} {rm : Room} {W : Nat} {as : Array Value} (hM : own_Met l Z y bytes maxL ret rm as h Q) (hZ : Z.Warmed39 s.vm) (wc : (Jvm.Cond.code y bytes maxL ret).before a0 Z = true) (wz : (Jvm.Cond.initialized y.cls).before a0 Z = true) (hf : rm.frames + 1 ≤ R.frames) (hl : W + (maxL + 11) + rm.locals ≤ R.locals) :
    own_Bk l R p e below s args y W as h rm.cells rm.slots Q := backOf (W := W) (hM []) hZ wc wz hf hl
/-- a static method by its contract -/
theorem own_callS (X : Stand p l e R s m args below meth c T locs cells slots) (hx : p.tables.exec = Jvm.exec) (hZ : Z.Warmed39 s.vm) {own : String} {index : Nat} {y : MethodName} {bytes : ByteArray} {maxL : Nat} {ret : Option FieldType} {cc ss : Nat}
    (hown : s.vm.findClass own = some m.cls) (w1 : (Jvm.Cond.methodLink own index y).before a0 Z = true) (w2 : (Jvm.Cond.static y).before a0 Z = true) (w3 : (Jvm.Cond.initialized y.cls).before a0 Z = true) (w4 : (Jvm.Cond.code y bytes maxL ret).before a0 Z = true)
    (hy : y.cls ≠ "java/lang/invoke/MethodHandle" ∧ y.cls ≠ "java/lang/invoke/VarHandle") {W : Nat} {argsL rest : List Value} (hK : own_Bk l R p e below s args y W argsL.toArray h cc ss Q) (eT : T.heap = h)
    {g : JFrame} (hg : g.method = m) (hsize : g.locals.size = c.maxLocals) (hlen : ∀ sig, parseMethodDescriptor y.desc = some sig → argsL.length = sig.parameters.length)
    (hstack : g.stack = argsL.reverse ++ rest) (hW : 2 * g.monitorRoom + (rest.map fun v => v.category).sum ≤ W) (hdg : decode c.code g.pc = .ok (.invokestatic index, 3))
    (hcl : cells + cc ≤ R.cells) (hsl : slots + ss ≤ R.slots)
    (k : ∀ v T' h' L, Stand p l e R s m args below meth c T' (locs ++ L) (cells + cc) (slots + ss) → T'.heap = h' → Q v h' L → own_Run p e below Φ (T'.setTop { g with pc := g.pc + 3, stack := v.toList ++ rest })) : own_Run p e below Φ (T.setTop g) := by
  obtain ⟨v, _, ⟨T', L', k', n'⟩, -, X', ⟨Lc, hQ, l1, y1, z1⟩, st⟩ := Jvm.LawKit.callS X hx (y := y) hown (mvT hZ w1) (mvT hZ w2) (mvT hZ w3) (mvT hZ w4) hy hK hg hsize hlen hstack hW hdg (fun _ _ => ⟨rfl, eT, hcl, hsl⟩)
  dsimp only [Pt.U, Pt.locs, Pt.cells, Pt.slots] at X' l1 y1 z1 st hQ
  subst l1 y1 z1
  exact own_go st (k v T' _ Lc X' rfl hQ)
/-- a constructor by its contract -/
theorem own_callI (X : Stand p l e R s m args below meth c T locs cells slots) (hx : p.tables.exec = Jvm.exec) (hZ : Z.Warmed39 s.vm) {own : String} {index : Nat} {y : MethodName} {bytes : ByteArray} {maxL : Nat} {cc ss : Nat} (hy1 : y.name = "<init>")
    (hown : s.vm.findClass own = some m.cls) (w1 : (Jvm.Cond.methodLink own index y).before a0 Z = true) (w2 : (Jvm.Cond.instanceMethod y).before a0 Z = true) (w4 : (Jvm.Cond.code y bytes maxL none).before a0 Z = true)
    (hy : y.cls ≠ "java/lang/invoke/MethodHandle" ∧ y.cls ≠ "java/lang/invoke/VarHandle") {W : Nat} {a : Addr} {argsL rest : List Value} (hK : own_Bk l R p e below s args y W (.ref a :: argsL).toArray h cc ss Q) (eT : T.heap = h)
    {g : JFrame} (hg : g.method = m) (hsize : g.locals.size = c.maxLocals) (hlen : ∀ sig, parseMethodDescriptor y.desc = some sig → argsL.length = sig.parameters.length)
    (hstack : g.stack = argsL.reverse ++ .ref a :: rest) (hW : 2 * g.monitorRoom + (rest.map fun v => v.category).sum ≤ W) (hdg : decode c.code g.pc = .ok (.invokespecial index, 3))
    (hcl : cells + cc ≤ R.cells) (hsl : slots + ss ≤ R.slots)
    (k : ∀ v T' h' L, Stand p l e R s m args below meth c T' (locs ++ L) (cells + cc) (slots + ss) → T'.heap = h' → Q v h' L → own_Run p e below Φ (T'.setTop { g with pc := g.pc + 3, stack := v.toList ++ rest })) : own_Run p e below Φ (T.setTop g) := by
  obtain ⟨v, _, ⟨T', L', k', n'⟩, -, X', ⟨Lc, hQ, l1, y1, z1⟩, st⟩ := X.specialBack hx (y := y) hy1 hown (mvT hZ w1) (mvT hZ w2) (mvT hZ w4) hy hK hg hsize (Steps.refl _) (a := a) hlen hstack hW hdg (fun _ _ => ⟨rfl, eT, hcl, hsl⟩)
  dsimp only [Pt.U, Pt.locs, Pt.cells, Pt.slots] at X' l1 y1 z1 st hQ
  subst l1 y1 z1
  exact own_via st (k v T' _ Lc X' rfl hQ)
/-- an instance method by the contract of the body that the receiver's class selects -/
theorem own_callV (X : Stand p l e R s m args below meth c T locs cells slots) (hx : p.tables.exec = Jvm.exec) (hZ : Z.Warmed39 s.vm) {own C : String} {index : Nat} {y z : MethodName} {cc ss : Nat}
    (hown : s.vm.findClass own = some m.cls) (w1 : (Jvm.Cond.methodLink own index y).before a0 Z = true) (w2 : (Jvm.Cond.declares y).before a0 Z = true) (hnf : NotFace s y) (w3 : (Jvm.Cond.selects C y z).before a0 Z = true) (w4 : (Jvm.Cond.instanceMethod z).before a0 Z = true)
    (hy : y.cls ≠ "java/lang/invoke/MethodHandle" ∧ y.cls ≠ "java/lang/invoke/VarHandle") {W : Nat} {a : Addr} {argsL rest : List Value} (hK : own_Bk l R p e below s args z W (.ref a :: argsL).toArray h cc ss Q) (eT : T.heap = h) (E : Exa Z h a C)
    {g : JFrame} (hg : g.method = m) (hsize : g.locals.size = c.maxLocals) (hlen : ∀ sig, parseMethodDescriptor y.desc = some sig → argsL.length = sig.parameters.length)
    (hstack : g.stack = argsL.reverse ++ .ref a :: rest) (hW : 2 * g.monitorRoom + (rest.map fun v => v.category).sum ≤ W) (hdg : decode c.code g.pc = .ok (.invokevirtual index, 3))
    (hcl : cells + cc ≤ R.cells) (hsl : slots + ss ≤ R.slots)
    (k : ∀ v T' h' L, Stand p l e R s m args below meth c T' (locs ++ L) (cells + cc) (slots + ss) → T'.heap = h' → Q v h' L → own_Run p e below Φ (T'.setTop { g with pc := g.pc + 3, stack := v.toList ++ rest })) : own_Run p e below Φ (T.setTop g) := by
  obtain ⟨cq, kq, qa, qb, qc⟩ := isOf hZ eT E
  obtain ⟨v, _, ⟨T', L', k', n'⟩, -, X', ⟨Lc, hQ, l1, y1, z1⟩, st⟩ := X.virtualBack hx (y := y) (z := z) hown (mvT hZ w1) (mvT hZ w2) hnf (mvT hZ w3) (mvT hZ w4) hy hK qa qc hg hsize (Steps.refl _) hlen hstack hW hdg (fun _ _ => ⟨rfl, eT, hcl, hsl⟩)
  dsimp only [Pt.U, Pt.locs, Pt.cells, Pt.slots] at X' l1 y1 z1 st hQ
  subst l1 y1 z1
  exact own_via st (k v T' _ Lc X' rfl hQ)
/-- an instance method that a superclass declares -/
theorem own_callU (X : Stand p l e R s m args below meth c T locs cells slots) (hx : p.tables.exec = Jvm.exec) (hZ : Z.Warmed39 s.vm) {own C owner : String} {index : Nat} {y z : MethodName} {cc ss : Nat}
    (hown : s.vm.findClass own = some m.cls) (w1 : (Jvm.Cond.methodLink own index y).before a0 Z = true) (w0 : (Jvm.Cond.sameMethod y.cls owner y.name y.desc).before a0 Z = true) (w2 : (Jvm.Cond.declares ⟨owner, y.name, y.desc⟩).before a0 Z = true) (w3 : (Jvm.Cond.selects C y z).before a0 Z = true) (w4 : (Jvm.Cond.instanceMethod z).before a0 Z = true)
    (hy : owner ≠ "java/lang/invoke/MethodHandle" ∧ owner ≠ "java/lang/invoke/VarHandle") {W : Nat} {a : Addr} {argsL rest : List Value} (hK : own_Bk l R p e below s args z W (.ref a :: argsL).toArray h cc ss Q) (eT : T.heap = h) (E : Exa Z h a C)
    {g : JFrame} (hg : g.method = m) (hsize : g.locals.size = c.maxLocals) (hlen : ∀ sig, parseMethodDescriptor y.desc = some sig → argsL.length = sig.parameters.length)
    (hstack : g.stack = argsL.reverse ++ .ref a :: rest) (hW : 2 * g.monitorRoom + (rest.map fun v => v.category).sum ≤ W) (hdg : decode c.code g.pc = .ok (.invokevirtual index, 3))
    (hcl : cells + cc ≤ R.cells) (hsl : slots + ss ≤ R.slots)
    (k : ∀ v T' h' L, Stand p l e R s m args below meth c T' (locs ++ L) (cells + cc) (slots + ss) → T'.heap = h' → Q v h' L → own_Run p e below Φ (T'.setTop { g with pc := g.pc + 3, stack := v.toList ++ rest })) : own_Run p e below Φ (T.setTop g) := by
  obtain ⟨cq, kq, qa, qb, qc⟩ := isOf hZ eT E
  obtain ⟨v, _, ⟨T', L', k', n'⟩, -, X', ⟨Lc, hQ, l1, y1, z1⟩, st⟩ := X.virtualBackUp hx (x := y) (y := z) hown (mvT hZ w1) (mvT hZ w0) (mvT hZ w2) hy (mvT hZ w3) (mvT hZ w4) hK qa qc hg hsize (Steps.refl _) hlen hstack hW hdg (fun _ _ => ⟨rfl, eT, hcl, hsl⟩)
  dsimp only [Pt.U, Pt.locs, Pt.cells, Pt.slots] at X' l1 y1 z1 st hQ
  subst l1 y1 z1
  exact own_via st (k v T' _ Lc X' rfl hQ)
/-- a private method by its contract -/
theorem own_callP (X : Stand p l e R s m args below meth c T locs cells slots) (hx : p.tables.exec = Jvm.exec) (hZ : Z.Warmed39 s.vm) {own C : String} {index : Nat} {y : MethodName} {bytes : ByteArray} {maxL : Nat} {ret : Option FieldType} {cc ss : Nat}
    (hown : s.vm.findClass own = some m.cls) (w1 : (Jvm.Cond.methodLink own index y).before a0 Z = true) (w2 : (Jvm.Cond.instanceMethod y).before a0 Z = true) (w3 : (Jvm.Cond.selects y.cls y y).before a0 Z = true) (w4 : (Jvm.Cond.privateMethod y).before a0 Z = true) (w6 : (Jvm.Cond.code y bytes maxL ret).before a0 Z = true)
    (hy : y.cls ≠ "java/lang/invoke/MethodHandle" ∧ y.cls ≠ "java/lang/invoke/VarHandle") {W : Nat} {a : Addr} {argsL rest : List Value} (hK : own_Bk l R p e below s args y W (.ref a :: argsL).toArray h cc ss Q) (eT : T.heap = h) (E : Exa Z h a C)
    {g : JFrame} (hg : g.method = m) (hsize : g.locals.size = c.maxLocals) (hlen : ∀ sig, parseMethodDescriptor y.desc = some sig → argsL.length = sig.parameters.length)
    (hstack : g.stack = argsL.reverse ++ .ref a :: rest) (hW : 2 * g.monitorRoom + (rest.map fun v => v.category).sum ≤ W) (hdg : decode c.code g.pc = .ok (.invokevirtual index, 3))
    (hcl : cells + cc ≤ R.cells) (hsl : slots + ss ≤ R.slots)
    (k : ∀ v T' h' L, Stand p l e R s m args below meth c T' (locs ++ L) (cells + cc) (slots + ss) → T'.heap = h' → Q v h' L → own_Run p e below Φ (T'.setTop { g with pc := g.pc + 3, stack := v.toList ++ rest })) : own_Run p e below Φ (T.setTop g) := by
  obtain ⟨cq, q1, q2⟩ := E.cell
  obtain ⟨v, _, ⟨T', L', k', n'⟩, -, X', ⟨Lc, hQ, l1, y1, z1⟩, st⟩ := X.privateBack hx (y := y) hown (mvT hZ w1) (mvT hZ w2) (mvT hZ w3) (Cond.privateMethod_at (mvP hZ w4 (args := #[]))) (mvT hZ w6) hy hK hg hsize (Steps.refl _) (a := a) (by rw [eT]; exact q1) q2 hlen hstack hW hdg (fun _ _ => ⟨rfl, eT, hcl, hsl⟩)
  dsimp only [Pt.U, Pt.locs, Pt.cells, Pt.slots] at X' l1 y1 z1 st hQ
  subst l1 y1 z1
  exact own_via st (k v T' _ Lc X' rfl hQ)
/-- arrays: reading -/
theorem own_iaload (X : Stand p l e R s m args below meth c T locs cells slots) (hx : p.tables.exec = Jvm.exec) (hZ : Z.Warmed39 s.vm) (eT : T.heap = h) {a : Addr} {k : ClassId} {z j : Int32} {vs : List Value} {dv v : Value} (V : Arv Z h a k .int z vs dv) (hj : ¬ j < 0 ∧ j < z) (hv : vs.getD j.toNatClampNeg dv = v)
    {g : JFrame} (hg : g.method = m) {rest : List Value} (hs : g.stack = .int j :: .ref a :: rest) (hd : decode c.code g.pc = .ok (.iaload, 1)) (r : own_Run p e below Φ (T.setTop { g with pc := g.pc + 1, stack := v :: rest })) : own_Run p e below Φ (T.setTop g) := by
  obtain ⟨cl, A, -, S, -, H, -⟩ := V
  exact own_go (fun t q => X.iaload hx (j := j) (v := v) (by rw [eT]; exact A.1) (State.isArrayOf_alike hZ.alike A.2.1) A.2.2 (inb_of S hj) (Has.at H (inb_of S hj) hv) hg hs hd t q) r
theorem own_laload (X : Stand p l e R s m args below meth c T locs cells slots) (hx : p.tables.exec = Jvm.exec) (hZ : Z.Warmed39 s.vm) (eT : T.heap = h) {a : Addr} {k : ClassId} {z j : Int32} {vs : List Value} {dv v : Value} (V : Arv Z h a k .long z vs dv) (hj : ¬ j < 0 ∧ j < z) (hv : vs.getD j.toNatClampNeg dv = v)
    {g : JFrame} (hg : g.method = m) {rest : List Value} (hs : g.stack = .int j :: .ref a :: rest) (hd : decode c.code g.pc = .ok (.laload, 1)) (r : own_Run p e below Φ (T.setTop { g with pc := g.pc + 1, stack := v :: rest })) : own_Run p e below Φ (T.setTop g) := by
  obtain ⟨cl, A, -, S, -, H, -⟩ := V
  exact own_go (fun t q => X.laload hx (j := j) (v := v) (by rw [eT]; exact A.1) (State.isArrayOf_alike hZ.alike A.2.1) A.2.2 (inb_of S hj) (Has.at H (inb_of S hj) hv) hg hs hd t q) r
theorem own_caload (X : Stand p l e R s m args below meth c T locs cells slots) (hx : p.tables.exec = Jvm.exec) (hZ : Z.Warmed39 s.vm) (eT : T.heap = h) {a : Addr} {k : ClassId} {z j : Int32} {vs : List Value} {dv v : Value} (V : Arv Z h a k .char z vs dv) (hj : ¬ j < 0 ∧ j < z) (hv : vs.getD j.toNatClampNeg dv = v)
    {g : JFrame} (hg : g.method = m) {rest : List Value} (hs : g.stack = .int j :: .ref a :: rest) (hd : decode c.code g.pc = .ok (.caload, 1)) (r : own_Run p e below Φ (T.setTop { g with pc := g.pc + 1, stack := v :: rest })) : own_Run p e below Φ (T.setTop g) := by
  obtain ⟨cl, A, -, S, -, H, -⟩ := V
  exact own_go (fun t q => X.caload hx (j := j) (v := v) (by rw [eT]; exact A.1) (State.isArrayOf_alike hZ.alike A.2.1) A.2.2 (inb_of S hj) (Has.at H (inb_of S hj) hv) hg hs hd t q) r
theorem own_baload (X : Stand p l e R s m args below meth c T locs cells slots) (hx : p.tables.exec = Jvm.exec) (hZ : Z.Warmed39 s.vm) (eT : T.heap = h) {a : Addr} {k : ClassId} {z j : Int32} {vs : List Value} {dv v : Value} (V : Arv Z h a k .byte z vs dv) (hj : ¬ j < 0 ∧ j < z) (hv : vs.getD j.toNatClampNeg dv = v)
    {g : JFrame} (hg : g.method = m) {rest : List Value} (hs : g.stack = .int j :: .ref a :: rest) (hd : decode c.code g.pc = .ok (.baload, 1)) (r : own_Run p e below Φ (T.setTop { g with pc := g.pc + 1, stack := v :: rest })) : own_Run p e below Φ (T.setTop g) := by
  obtain ⟨cl, A, -, S, -, H, -⟩ := V
  exact own_go (fun t q => X.baloadBytes hx (j := j) (v := v) (by rw [eT]; exact A.1) (State.isArrayOf_alike hZ.alike A.2.1) A.2.2 (inb_of S hj) (Has.at H (inb_of S hj) hv) hg hs hd t q) r
theorem own_arrlen (X : Stand p l e R s m args below meth c T locs cells slots) (hx : p.tables.exec = Jvm.exec) (hZ : Z.Warmed39 s.vm) (eT : T.heap = h) {a : Addr} {k : ClassId} {ty : FieldType} {z : Int32} {vs : List Value} {dv : Value} (V : Arv Z h a k ty z vs dv)
    {g : JFrame} (hg : g.method = m) {rest : List Value} (hs : g.stack = .ref a :: rest) (hd : decode c.code g.pc = .ok (.arraylength, 1)) (r : own_Run p e below Φ (T.setTop { g with pc := g.pc + 1, stack := .int z :: rest })) : own_Run p e below Φ (T.setTop g) := by
  obtain ⟨cl, A, -, S, M, -, -⟩ := V
  refine own_go (fun t q => X.arraylength hx (by rw [eT]; exact A.1) (State.isArrayOf_alike hZ.alike A.2.1) hg hs hd t q) ?_
  rw [len_of S M]; exact r
/-- arrays: writing -/
theorem own_iastore (X : Stand p l e R s m args below meth c T locs cells slots) (hx : p.tables.exec = Jvm.exec) (hZ : Z.Warmed39 s.vm) (eT : T.heap = h) {a : Addr} {k : ClassId} {z j x : Int32} {vs : List Value} {dv : Value} (V : Arv Z h a k .int z vs dv) (hj : ¬ j < 0 ∧ j < z) (i : Nat) (hi : j.toNatClampNeg = i) (hl : i < vs.length)
    {g : JFrame} (hg : g.method = m) {rest : List Value} (hs : g.stack = .int x :: .int j :: .ref a :: rest) (hd : decode c.code g.pc = .ok (.iastore, 1))
    (r : ∀ T' h', Stand p l e R s m args below meth c T' (locs ++ [⟨a, j.toNatClampNeg⟩]) cells slots → T'.heap = h' → Wr h h' a j.toNatClampNeg (.int x) → Arv Z h' a k .int z (vs.set i (.int x)) dv → own_Run p e below Φ (T'.setTop { g with pc := g.pc + 1, stack := rest })) : own_Run p e below Φ (T.setTop g) := by
  obtain ⟨cl, A, q, S, N, H, G⟩ := V
  obtain ⟨T', h', X', e', W, st⟩ := stI X hx hZ eT A (j := j) (inb_of S hj) hg hs hd
  exact own_go st (r T' h' X' e' W (Arv.set A q S N H G rfl W i hi hl))
theorem own_lastore (X : Stand p l e R s m args below meth c T locs cells slots) (hx : p.tables.exec = Jvm.exec) (hZ : Z.Warmed39 s.vm) (eT : T.heap = h) {a : Addr} {k : ClassId} {z j : Int32} {x : Int64} {vs : List Value} {dv : Value} (V : Arv Z h a k .long z vs dv) (hj : ¬ j < 0 ∧ j < z) (i : Nat) (hi : j.toNatClampNeg = i) (hl : i < vs.length)
    {g : JFrame} (hg : g.method = m) {rest : List Value} (hs : g.stack = .long x :: .int j :: .ref a :: rest) (hd : decode c.code g.pc = .ok (.lastore, 1))
    (r : ∀ T' h', Stand p l e R s m args below meth c T' (locs ++ [⟨a, j.toNatClampNeg⟩]) cells slots → T'.heap = h' → Wr h h' a j.toNatClampNeg (.long x) → Arv Z h' a k .long z (vs.set i (.long x)) dv → own_Run p e below Φ (T'.setTop { g with pc := g.pc + 1, stack := rest })) : own_Run p e below Φ (T.setTop g) := by
  obtain ⟨cl, A, q, S, N, H, G⟩ := V
  obtain ⟨T', h', X', e', W, st⟩ := stJ X hx hZ eT A (j := j) (inb_of S hj) hg hs hd
  exact own_go st (r T' h' X' e' W (Arv.set A q S N H G rfl W i hi hl))
theorem own_bastore (X : Stand p l e R s m args below meth c T locs cells slots) (hx : p.tables.exec = Jvm.exec) (hZ : Z.Warmed39 s.vm) (eT : T.heap = h) {a : Addr} {k : ClassId} {z j x : Int32} {vs : List Value} {dv : Value} (V : Arv Z h a k .byte z vs dv) (hj : ¬ j < 0 ∧ j < z) (i : Nat) (hi : j.toNatClampNeg = i) (hl : i < vs.length)
    {g : JFrame} (hg : g.method = m) {rest : List Value} (hs : g.stack = .int x :: .int j :: .ref a :: rest) (hd : decode c.code g.pc = .ok (.bastore, 1))
    (r : ∀ T' h', Stand p l e R s m args below meth c T' (locs ++ [⟨a, j.toNatClampNeg⟩]) cells slots → T'.heap = h' → Wr h h' a j.toNatClampNeg (.int x.toInt8.toInt32) → Arv Z h' a k .byte z (vs.set i (.int x.toInt8.toInt32)) dv → own_Run p e below Φ (T'.setTop { g with pc := g.pc + 1, stack := rest })) : own_Run p e below Φ (T.setTop g) := by
  obtain ⟨cl, A, q, S, N, H, G⟩ := V
  obtain ⟨T', h', X', e', W, st⟩ := stB X hx hZ eT A (j := j) (inb_of S hj) hg hs hd
  exact own_go st (r T' h' X' e' W (Arv.set A q S N H G (fits_nar_byte _) W i hi hl))
theorem own_castore (X : Stand p l e R s m args below meth c T locs cells slots) (hx : p.tables.exec = Jvm.exec) (hZ : Z.Warmed39 s.vm) (eT : T.heap = h) {a : Addr} {k : ClassId} {z j x : Int32} {vs : List Value} {dv : Value} (V : Arv Z h a k .char z vs dv) (hj : ¬ j < 0 ∧ j < z) (i : Nat) (hi : j.toNatClampNeg = i) (hl : i < vs.length)
    {g : JFrame} (hg : g.method = m) {rest : List Value} (hs : g.stack = .int x :: .int j :: .ref a :: rest) (hd : decode c.code g.pc = .ok (.castore, 1))
    (r : ∀ T' h', Stand p l e R s m args below meth c T' (locs ++ [⟨a, j.toNatClampNeg⟩]) cells slots → T'.heap = h' → Wr h h' a j.toNatClampNeg (.int (nar .char x)) → Arv Z h' a k .char z (vs.set i (.int (nar .char x))) dv → own_Run p e below Φ (T'.setTop { g with pc := g.pc + 1, stack := rest })) : own_Run p e below Φ (T.setTop g) := by
  obtain ⟨cl, A, q, S, N, H, G⟩ := V
  obtain ⟨T', h', X', e', W, st⟩ := stC X hx hZ eT A (j := j) (inb_of S hj) hg hs hd
  exact own_go st (r T' h' X' e' W (Arv.set A q S N H G (fits_nar_char _) W i hi hl))
theorem own_newP (X : Stand p l e R s m args below meth c T locs cells slots) (hx : p.tables.exec = Jvm.exec) (hZ : Z.Warmed39 s.vm) {aty : ArrayType} (w : (Jvm.Cond.arrayClass (newarray.typeOf aty)).before a0 Z = true) (eT : T.heap = h) {g : JFrame} (hg : g.method = m) (hd : decode c.code g.pc = .ok (.newarray aty, 2)) {n : Int32} {rest : List Value} (hs : g.stack = .int n :: rest)
    (hn : ¬ n < 0) (cap : Nat) (hcap : n.toNatClampNeg ≤ cap) (hb : cap * 8 ≤ 536870912) (hc : cells + 1 ≤ R.cells) (hl : slots + cap ≤ R.slots) (N : Nat)
    (r : ∀ T' h' cA a, Stand p l e R s m args below meth c T' locs (cells + 1) (slots + cap) → T'.heap = h' → Ext h h' → a = h.size → Arv Z h' a cA (newarray.typeOf aty) n (List.replicate N (defaultValue (newarray.typeOf aty))) (defaultValue (newarray.typeOf aty)) → own_Run p e below Φ (T'.setTop { g with pc := g.pc + 2, stack := .ref a :: rest })) : own_Run p e below Φ (T.setTop g) := by
  obtain ⟨T', h', cA, X', e', E, A, st⟩ := newP X hx hZ w eT hg hd hs hn hcap hb hc hl
  have V := Arv.new A hn
  have q : ∀ i, (List.replicate N (defaultValue (newarray.typeOf aty))).getD i (defaultValue (newarray.typeOf aty)) = ([] : List Value).getD i (defaultValue (newarray.typeOf aty)) := pad_rep [] (defaultValue (newarray.typeOf aty)) N
  exact own_go st (r T' h' cA h.size X' e' E rfl (V.pad q))
theorem own_newRA (X : Stand p l e R s m args below meth c T locs cells slots) (hx : p.tables.exec = Jvm.exec) (hZ : Z.Warmed39 s.vm) {own C : String} {ty : FieldType} {index : Nat} (hown : s.vm.findClass own = some m.cls) (hC : (FieldType.array ty).toString = C) (w1 : (Jvm.Cond.classLink own index C).before a0 Z = true) (w2 : (Jvm.Cond.arrayOver (.array ty)).before a0 Z = true) (eT : T.heap = h) {g : JFrame} (hg : g.method = m) (hd : decode c.code g.pc = .ok (.anewarray index, 3)) {n : Int32} {rest : List Value} (hs : g.stack = .int n :: rest)
    (hn : ¬ n < 0) (cap : Nat) (hcap : n.toNatClampNeg ≤ cap) (hb : cap * 8 ≤ 536870912) (hc : cells + 1 ≤ R.cells) (hl : slots + cap ≤ R.slots) (N : Nat)
    (r : ∀ T' h' cA a, Stand p l e R s m args below meth c T' locs (cells + 1) (slots + cap) → T'.heap = h' → Ext h h' → a = h.size → Arv Z h' a cA (.array ty) n (List.replicate N .null) .null → OvrA Z cA ty C → own_Run p e below Φ (T'.setTop { g with pc := g.pc + 3, stack := .ref a :: rest })) : own_Run p e below Φ (T.setTop g) := by
  obtain ⟨T', h', cA, X', e', E, A, -, O, st⟩ := newRA X hx hZ hown hC w1 w2 eT hg hd hs hn hcap hb hc hl rfl
  have V := Arv.new A hn
  have q : ∀ i, (List.replicate N Value.null).getD i Value.null = ([] : List Value).getD i Value.null := pad_rep [] Value.null N
  exact own_go st (r T' h' cA h.size X' e' E rfl (V.pad q) O)
theorem own_aaload (X : Stand p l e R s m args below meth c T locs cells slots) (hx : p.tables.exec = Jvm.exec) (hZ : Z.Warmed39 s.vm) (eT : T.heap = h) {a : Addr} {k : ClassId} {ty : FieldType} {z j : Int32} {vs : List Value} {dv v : Value} (V : Arv Z h a k ty z vs dv) (hty : ty.isReference = true) (hj : ¬ j < 0 ∧ j < z) (hv : vs.getD j.toNatClampNeg dv = v)
    {g : JFrame} (hg : g.method = m) {rest : List Value} (hs : g.stack = .int j :: .ref a :: rest) (hd : decode c.code g.pc = .ok (.aaload, 1)) (r : own_Run p e below Φ (T.setTop { g with pc := g.pc + 1, stack := v :: rest })) : own_Run p e below Φ (T.setTop g) := by
  obtain ⟨cl, A, -, S, -, H, -⟩ := V
  exact own_go (fun t q => X.aaload hx (j := j) (v := v) (by rw [eT]; exact A.1) (State.isArrayOf_alike hZ.alike A.2.1) hty A.2.2 (inb_of S hj) (Has.at H (inb_of S hj) hv) hg hs hd t q) r
theorem own_le {a b c d : Nat} (h1 : a ≤ b) (h2 : b + c ≤ d) : a + c ≤ d := Nat.le_trans (Nat.add_le_add_right h1 c) h2
/-- the case's words on statics -/
theorem own_eqI {args : Array Value} {first s : State} {o : Option Outcome} {idx : List Nat} {t : Term} {k : Int32} (h : (Jvm.Cond.eq t (.int k)).value args first o s idx = some true) : t.eval args first o idx s = some (.int k) := by
  cases ht : t.eval args first o idx s with
  | none => simp [Cond.value, ht] at h
  | some x => cases x <;> simp [Cond.value, Term.eval, ht] at h ⊢; exact h
theorem own_fldI {args : Array Value} {t : Term} {x : Addr} {C n d : String} {k : Int32} (ht : t.eval args Z none [] Z = some (.ref x)) (h : (Jvm.Cond.eq (.field t C n d) (.int k)).value args Z none Z [] = some true) : Fld Z Z.heap x C n d (.int k) := Fld.start ((fld_at ht).symm.trans (own_eqI h))
end OwnRun
def own_max (a b : Int32) : Int32 := if a < b then b else a
theorem own_dd (o : Int64) (d : Int32) : ((o + d.toInt64) - o).toInt32 = d := by
  have h1 := c_ladd o d.toInt64; have h2 := c_lsub (o + d.toInt64) o; have h3 := c_l2i ((o + d.toInt64) - o)
  rw [c_i2l] at h1
  have r := rng32 d; have r2 := rng32 ((o + d.toInt64) - o).toInt32
  apply Int32.toInt_inj.mp; omega
theorem own_mx {a b c : Int32} (h1 : 0 ≤ a.toInt) (h2 : 0 ≤ b.toInt) (h3 : 0 ≤ c.toInt) : own_max (own_max (own_max (0 : Int32) a) b) c = own_max a (own_max b c) := by
  unfold own_max
  apply Int32.toInt_inj.mp
  simp only [Int32.lt_iff_toInt_lt, Int32.reduceToInt]
  repeat' split
  all_goals first | omega | (simp only [Int32.lt_iff_toInt_lt, Int32.reduceToInt] at *; omega)
theorem own_m30 (x : Int32) : 0 ≤ (x &&& (1073741823 : Int32)).toInt := by have := c_mask x 1073741823 30 (by decide) (by decide); omega
theorem d7_0 : decode jdk_29_method_65_code 0 = .ok (.iload_n 0, 1) := by decide +kernel
theorem d7_1 : decode jdk_29_method_65_code 1 = .ok (.iload_n 1, 1) := by decide +kernel
theorem d7_2 : decode jdk_29_method_65_code 2 = .ok (.if_icmp .lt 7, 3) := by decide +kernel
theorem d7_5 : decode jdk_29_method_65_code 5 = .ok (.iload_n 0, 1) := by decide +kernel
theorem d7_6 : decode jdk_29_method_65_code 6 = .ok (.goto 4, 3) := by decide +kernel
theorem d7_9 : decode jdk_29_method_65_code 9 = .ok (.iload_n 1, 1) := by decide +kernel
theorem d7_10 : decode jdk_29_method_65_code 10 = .ok (.ireturn, 1) := by decide +kernel
theorem ef_7_II (m : MethodId) (x0 : Int32) (x1 : Int32) : entryFrame m #[(.int x0), (.int x1)] 2 = mkF m 0 #[.val (.int x0), .val (.int x1)] [] := by first | (simp [entryFrame, mkF, argsToLocals, Value.category]; done) | rfl
set_option maxRecDepth 65536 in
set_option maxHeartbeats 40000000 in
theorem rm_max (l : Launch) (Z : State) (a0 : Array Value) (hw : ∀ d ∈ tables_1, d.before a0 Z = true) (p1 : Int32) (p2 : Int32) (h0 : Heap) (n0 : Nat)  :
    own_Met l Z (⟨"java/lang/Math", "max", "(II)I"⟩ : MethodName) jdk_29_method_65_code 2 (some .int) ({ frames := 0, cells := 0, slots := 0, locals := 0 } : Room) #[(.int p1), (.int p2)] h0 (fun v h L => v = some (.int (own_max p1 p2)) ∧ Fr n0 L ∧ h = h0) := by
  intro ws
  refine MetFree.of_bodySF (Jvm.Free.JP.mathPlain rfl (by decide +kernel)) hisR ?_
  intro p e s m args below meth c s₁ Bd hml0 hP hK
  obtain ⟨rfl, hZ, hh⟩ := hP
  have hx := Bd.exec
  have hby := Bd.bytes
  have hml : c.maxLocals = 2 := hml0
  have hown : s.vm.findClass "java/lang/Math" = some m.cls := findClass_of_methodNamed Bd.named
  have hnm := (name_of_methodNamed Bd.named Bd.method).1
  have hlk : meth.locks = false := Bd.notSynchronized
  have X0 : Stand p l e ({ frames := 0, cells := 0, slots := 0, locals := 0 } : Room) s m #[(.int p1), (.int p2)] below meth c s₁ [] 0 0 := Stand.of_body Bd
  have e0 : s₁.heap = h0 := by rw [← hh, Bd.state]; rfl
  have N0 := Fr.nil n0
  refine own_body (Q := fun v h L => v = some (.int (own_max p1 p2)) ∧ Fr n0 L ∧ h = h0) ?_
  generalize hΦ : own_Fin s below _ _ _ = Φ
  refine own_cast (ef_7_II m p1 p2) ?_
  show own_Run p e below Φ (s₁.setTop (mkF m 0 #[.val (.int p1), .val (.int p2)] []))
  refine own_go (fun t k => XS.iloadN X0.here hx rfl (hb hby d7_0) rfl  k) ?_
  refine own_go (fun t k => XS.iloadN X0.here hx rfl (hb hby d7_1) rfl  k) ?_
  by_cases hc2 : p1 < p2
  · refine own_go (fun t k => XS.icmpYes X0.here hx rfl (pc0 := 2) (pc' := 9) rfl (hb hby d7_2) rfl (tlt hc2).1 (by decide) (by decide) k) ?_
    refine own_go (fun t k => XS.iloadN X0.here hx rfl (hb hby d7_9) rfl  k) ?_
    subst hΦ
    exact own_retI X0 hx Bd.returns hlk (hb hby d7_10) e0 ⟨(by unfold own_max; rw [if_pos hc2]), N0, rfl⟩ (by decide) (by decide)
  · refine own_go (fun t k => XS.icmpNo X0.here hx rfl (hb hby d7_2) rfl (flt hc2).1 k) ?_
    show own_Run p e below Φ (s₁.setTop (mkF m 5 #[.val (.int p1), .val (.int p2)] []))
    refine own_go (fun t k => XS.iloadN X0.here hx rfl (hb hby d7_5) rfl  k) ?_
    refine own_go (fun t k => XS.goto X0.here hx rfl (pc0 := 6) (pc' := 10) rfl (hb hby d7_6) (by decide) (by decide) k) ?_
    subst hΦ
    exact own_retI X0 hx Bd.returns hlk (hb hby d7_10) e0 ⟨(by unfold own_max; rw [if_neg hc2]), N0, rfl⟩ (by decide) (by decide)
theorem d4_0 : decode prog_46_method_6_code 0 = .ok (.lload_n 1, 1) := by decide +kernel
theorem d4_1 : decode prog_46_method_6_code 1 = .ok (.aload_n 0, 1) := by decide +kernel
theorem d4_2 : decode prog_46_method_6_code 2 = .ok (.getfield 16, 3) := by decide +kernel
theorem d4_5 : decode prog_46_method_6_code 5 = .ok (.i2l, 1) := by decide +kernel
theorem d4_6 : decode prog_46_method_6_code 6 = .ok (.ladd, 1) := by decide +kernel
theorem d4_7 : decode prog_46_method_6_code 7 = .ok (.aload_n 0, 1) := by decide +kernel
theorem d4_8 : decode prog_46_method_6_code 8 = .ok (.getfield 7, 3) := by decide +kernel
theorem d4_11 : decode prog_46_method_6_code 11 = .ok (.lushr, 1) := by decide +kernel
theorem d4_12 : decode prog_46_method_6_code 12 = .ok (.lstore_n 3, 1) := by decide +kernel
theorem d4_13 : decode prog_46_method_6_code 13 = .ok (.lload_n 1, 1) := by decide +kernel
theorem d4_14 : decode prog_46_method_6_code 14 = .ok (.lconst 0, 1) := by decide +kernel
theorem d4_15 : decode prog_46_method_6_code 15 = .ok (.lcmp, 1) := by decide +kernel
theorem d4_16 : decode prog_46_method_6_code 16 = .ok (.ifCond .lt 11, 3) := by decide +kernel
theorem d4_19 : decode prog_46_method_6_code 19 = .ok (.lload_n 3, 1) := by decide +kernel
theorem d4_20 : decode prog_46_method_6_code 20 = .ok (.ldc2_w 61, 3) := by decide +kernel
theorem d4_23 : decode prog_46_method_6_code 23 = .ok (.lcmp, 1) := by decide +kernel
theorem d4_24 : decode prog_46_method_6_code 24 = .ok (.ifCond .le 17, 3) := by decide +kernel
theorem d4_41 : decode prog_46_method_6_code 41 = .ok (.lload_n 3, 1) := by decide +kernel
theorem d4_42 : decode prog_46_method_6_code 42 = .ok (.l2i, 1) := by decide +kernel
theorem d4_43 : decode prog_46_method_6_code 43 = .ok (.ireturn, 1) := by decide +kernel
theorem pn_c3 : plainName "com/example/hueline/hueline/model/Pages" = true := by first | (simp [plainName, overriddenIn]; done) | decide +kernel
theorem ef_4_RJ (m : MethodId) (x0 : Addr) (x1 : Int64) : entryFrame m #[(.ref x0), (.long x1)] 5 = mkF m 0 #[.val (.ref x0), .val (.long x1), .second, .unset, .unset] [] := by first | (simp [entryFrame, mkF, argsToLocals, Value.category]; done) | rfl
set_option maxRecDepth 65536 in
set_option maxHeartbeats 40000000 in
theorem rm_cnt (l : Launch) (Z : State) (a0 : Array Value) (hw : ∀ d ∈ tables_1, d.before a0 Z = true) (a1 : Addr) (h0 : Heap) (n0 : Nat) (H1 : Fld Z h0 a1 "com/example/hueline/hueline/model/Pages" "mask" "I" (.int (1073741823 : Int32))) (H2 : Fld Z h0 a1 "com/example/hueline/hueline/model/Pages" "shift" "I" (.int (30 : Int32))) :
    own_Met l Z (⟨"com/example/hueline/hueline/model/Pages", "count", "(J)I"⟩ : MethodName) prog_46_method_6_code 5 (some .int) ({ frames := 0, cells := 0, slots := 0, locals := 0 } : Room) #[(.ref a1), (.long (0 : Int64))] h0 (fun v h L => v = some (.int (0 : Int32)) ∧ Fr n0 L ∧ h = h0) := by
  intro ws
  refine MetFree.of_bodySF (plainFor_of_name pn_c3) hisR ?_
  intro p e s m args below meth c s₁ Bd hml0 hP hK
  obtain ⟨rfl, hZ, hh⟩ := hP
  have hx := Bd.exec
  have hby := Bd.bytes
  have hml : c.maxLocals = 5 := hml0
  have hown : s.vm.findClass "com/example/hueline/hueline/model/Pages" = some m.cls := findClass_of_methodNamed Bd.named
  have hnm := (name_of_methodNamed Bd.named Bd.method).1
  have hlk : meth.locks = false := Bd.notSynchronized
  have X0 : Stand p l e ({ frames := 0, cells := 0, slots := 0, locals := 0 } : Room) s m #[(.ref a1), (.long (0 : Int64))] below meth c s₁ [] 0 0 := Stand.of_body Bd
  have e0 : s₁.heap = h0 := by rw [← hh, Bd.state]; rfl
  have N0 := Fr.nil n0
  refine own_body (Q := fun v h L => v = some (.int (0 : Int32)) ∧ Fr n0 L ∧ h = h0) ?_
  generalize hΦ : own_Fin s below _ _ _ = Φ
  refine own_cast (ef_4_RJ m a1 (0 : Int64)) ?_
  show own_Run p e below Φ (s₁.setTop (mkF m 0 #[.val (.ref a1), .val (.long (0 : Int64)), .second, .unset, .unset] []))
  refine own_go (fun t k => XS.lloadN X0.here hx rfl (hb hby d4_0) rfl  k) ?_
  refine own_go (fun t k => XS.aloadN X0.here hx rfl (hb hby d4_1) rfl rfl  k) ?_
  obtain ⟨T1, X1, e1, st1⟩ := getF X0 hx hZ hown (host := "") (Or.inl (hw _ (List.mem_of_getElem? (i := 25) rfl))) Via.refl e0 H1 (g := (mkF m 2 #[.val (.ref a1), .val (.long (0 : Int64)), .second, .unset, .unset] [(.ref a1), (.long (0 : Int64))])) rfl rfl (hb hby d4_2)
  refine own_go st1 ?_
  refine own_go (fun t k => XS.i2l X1.here hx rfl (hb hby d4_5) rfl k) ?_
  show own_Run p e below Φ (T1.setTop (mkF m 6 #[.val (.ref a1), .val (.long (0 : Int64)), .second, .unset, .unset] [(.long ((1073741823 : Int32).toInt64)), (.long (0 : Int64))]))
  rw [show ((1073741823 : Int32).toInt64) = (1073741823 : Int64) from by decide]
  show own_Run p e below Φ (T1.setTop (mkF m 6 #[.val (.ref a1), .val (.long (0 : Int64)), .second, .unset, .unset] [(.long (1073741823 : Int64)), (.long (0 : Int64))]))
  refine own_go (fun t k => XS.ladd X1.here hx rfl (hb hby d4_6) rfl k) ?_
  show own_Run p e below Φ (T1.setTop (mkF m 7 #[.val (.ref a1), .val (.long (0 : Int64)), .second, .unset, .unset] [(.long ((0 : Int64) + (1073741823 : Int64)))]))
  rw [show ((0 : Int64) + (1073741823 : Int64)) = (1073741823 : Int64) from by decide]
  show own_Run p e below Φ (T1.setTop (mkF m 7 #[.val (.ref a1), .val (.long (0 : Int64)), .second, .unset, .unset] [(.long (1073741823 : Int64))]))
  refine own_go (fun t k => XS.aloadN X1.here hx rfl (hb hby d4_7) rfl rfl  k) ?_
  obtain ⟨T2, X2, e2, st2⟩ := getF X1 hx hZ hown (host := "") (Or.inl (hw _ (List.mem_of_getElem? (i := 27) rfl))) Via.refl e1 H2 (g := (mkF m 8 #[.val (.ref a1), .val (.long (0 : Int64)), .second, .unset, .unset] [(.ref a1), (.long (1073741823 : Int64))])) rfl rfl (hb hby d4_8)
  refine own_go st2 ?_
  refine own_go (fun t k => XS.lushr X2.here hx rfl (hb hby d4_11) rfl k) ?_
  show own_Run p e below Φ (T2.setTop (mkF m 12 #[.val (.ref a1), .val (.long (0 : Int64)), .second, .unset, .unset] [(.long (((1073741823 : Int64).toUInt64 >>> ((30 : Int32) &&& 0x3f).toInt64.toUInt64).toInt64))]))
  rw [show (((1073741823 : Int64).toUInt64 >>> ((30 : Int32) &&& 0x3f).toInt64.toUInt64).toInt64) = (0 : Int64) from by decide]
  show own_Run p e below Φ (T2.setTop (mkF m 12 #[.val (.ref a1), .val (.long (0 : Int64)), .second, .unset, .unset] [(.long (0 : Int64))]))
  refine own_go (fun t k => XS.lstoreN X2.here hx rfl (hb hby d4_12) rfl (l' := #[.val (.ref a1), .val (.long (0 : Int64)), .second, .val (.long (0 : Int64)), .second]) rfl k) ?_
  refine own_go (fun t k => XS.lloadN X2.here hx rfl (hb hby d4_13) rfl  k) ?_
  refine own_go (fun t k => XS.lconst X2.here hx rfl (hb hby d4_14) k) ?_
  refine own_go (fun t k => XS.lcmp X2.here hx rfl (hb hby d4_15) rfl k) ?_
  show own_Run p e below Φ (T2.setTop (mkF m 16 #[.val (.ref a1), .val (.long (0 : Int64)), .second, .val (.long (0 : Int64)), .second] [(.int (lcmpW (0 : Int64) (0 : Int64)))]))
  rw [show (lcmpW (0 : Int64) (0 : Int64)) = (0 : Int32) from by decide]
  show own_Run p e below Φ (T2.setTop (mkF m 16 #[.val (.ref a1), .val (.long (0 : Int64)), .second, .val (.long (0 : Int64)), .second] [(.int (0 : Int32))]))
  refine own_go (fun t k => XS.ifNo X2.here hx rfl (hb hby d4_16) rfl ((if0 _ _).trans (flt (by decide : ¬ ((0 : Int32) < (0 : Int32)))).1) k) ?_
  refine own_go (fun t k => XS.lloadN X2.here hx rfl (hb hby d4_19) rfl  k) ?_
  refine own_go (X2.ldc2Long hx hown (mvT hZ (hw _ (List.mem_of_getElem? (i := 29) rfl))) (g := (mkF m 20 #[.val (.ref a1), .val (.long (0 : Int64)), .second, .val (.long (0 : Int64)), .second] [(.long (0 : Int64))])) rfl (hb hby d4_20)) ?_
  refine own_go (fun t k => XS.lcmp X2.here hx rfl (hb hby d4_23) rfl k) ?_
  show own_Run p e below Φ (T2.setTop (mkF m 24 #[.val (.ref a1), .val (.long (0 : Int64)), .second, .val (.long (0 : Int64)), .second] [(.int (lcmpW (0 : Int64) (2147483639 : Int64)))]))
  rw [show (lcmpW (0 : Int64) (2147483639 : Int64)) = (-1 : Int32) from by decide]
  show own_Run p e below Φ (T2.setTop (mkF m 24 #[.val (.ref a1), .val (.long (0 : Int64)), .second, .val (.long (0 : Int64)), .second] [(.int (-1 : Int32))]))
  refine own_go (fun t k => XS.ifYes X2.here hx rfl (pc0 := 24) (pc' := 41) rfl (hb hby d4_24) rfl ((if0 _ _).trans (flt (by decide : ¬ ((0 : Int32) < (-1 : Int32)))).2.2.2) (by decide) (by decide) k) ?_
  refine own_go (fun t k => XS.lloadN X2.here hx rfl (hb hby d4_41) rfl  k) ?_
  refine own_go (fun t k => XS.l2i X2.here hx rfl (hb hby d4_42) rfl k) ?_
  show own_Run p e below Φ (T2.setTop (mkF m 43 #[.val (.ref a1), .val (.long (0 : Int64)), .second, .val (.long (0 : Int64)), .second] [(.int ((0 : Int64).toInt32))]))
  rw [show ((0 : Int64).toInt32) = (0 : Int32) from by decide]
  show own_Run p e below Φ (T2.setTop (mkF m 43 #[.val (.ref a1), .val (.long (0 : Int64)), .second, .val (.long (0 : Int64)), .second] [(.int (0 : Int32))]))
  subst hΦ
  exact own_retI X2 hx Bd.returns hlk (hb hby d4_43) e2 ⟨rfl, N0, rfl⟩ (by decide) (by decide)
theorem d2_0 : decode prog_36_method_2_code 0 = .ok (.aload_n 0, 1) := by decide +kernel
theorem d2_1 : decode prog_36_method_2_code 1 = .ok (.invokespecial 13, 3) := by decide +kernel
theorem d2_4 : decode prog_36_method_2_code 4 = .ok (.aload_n 0, 1) := by decide +kernel
theorem d2_5 : decode prog_36_method_2_code 5 = .ok (.aload_n 3, 1) := by decide +kernel
theorem d2_6 : decode prog_36_method_2_code 6 = .ok (.putfield 18, 3) := by decide +kernel
theorem d2_9 : decode prog_36_method_2_code 9 = .ok (.aload_n 0, 1) := by decide +kernel
theorem d2_10 : decode prog_36_method_2_code 10 = .ok (.aload_n 3, 1) := by decide +kernel
theorem d2_11 : decode prog_36_method_2_code 11 = .ok (.lload_n 1, 1) := by decide +kernel
theorem d2_12 : decode prog_36_method_2_code 12 = .ok (.invokevirtual 21, 3) := by decide +kernel
theorem d2_15 : decode prog_36_method_2_code 15 = .ok (.anewarray 25, 3) := by decide +kernel
theorem d2_18 : decode prog_36_method_2_code 18 = .ok (.putfield 27, 3) := by decide +kernel
theorem d2_21 : decode prog_36_method_2_code 21 = .ok (.aload_n 0, 1) := by decide +kernel
theorem d2_22 : decode prog_36_method_2_code 22 = .ok (.lload_n 1, 1) := by decide +kernel
theorem d2_23 : decode prog_36_method_2_code 23 = .ok (.putfield 31, 3) := by decide +kernel
theorem d2_26 : decode prog_36_method_2_code 26 = .ok (.iconst 0, 1) := by decide +kernel
theorem d2_27 : decode prog_36_method_2_code 27 = .ok (.istore 4, 2) := by decide +kernel
theorem d2_29 : decode prog_36_method_2_code 29 = .ok (.iload 4, 2) := by decide +kernel
theorem d2_31 : decode prog_36_method_2_code 31 = .ok (.aload_n 0, 1) := by decide +kernel
theorem d2_32 : decode prog_36_method_2_code 32 = .ok (.getfield 27, 3) := by decide +kernel
theorem d2_35 : decode prog_36_method_2_code 35 = .ok (.arraylength, 1) := by decide +kernel
theorem d2_36 : decode prog_36_method_2_code 36 = .ok (.if_icmp .ge 25, 3) := by decide +kernel
theorem d2_61 : decode prog_36_method_2_code 61 = .ok (.aload_n 0, 1) := by decide +kernel
theorem d2_62 : decode prog_36_method_2_code 62 = .ok (.aload_n 0, 1) := by decide +kernel
theorem d2_63 : decode prog_36_method_2_code 63 = .ok (.getfield 27, 3) := by decide +kernel
theorem d2_66 : decode prog_36_method_2_code 66 = .ok (.arraylength, 1) := by decide +kernel
theorem d2_67 : decode prog_36_method_2_code 67 = .ok (.iconst 1, 1) := by decide +kernel
theorem d2_68 : decode prog_36_method_2_code 68 = .ok (.if_icmp .ne 12, 3) := by decide +kernel
theorem d2_80 : decode prog_36_method_2_code 80 = .ok (.aconst_null, 1) := by decide +kernel
theorem d2_81 : decode prog_36_method_2_code 81 = .ok (.putfield 38, 3) := by decide +kernel
theorem d2_84 : decode prog_36_method_2_code 84 = .ok (.return_, 1) := by decide +kernel
theorem pn_c1 : plainName "com/example/hueline/hueline/model/BigIntArray" = true := by first | (simp [plainName, overriddenIn]; done) | decide +kernel
theorem pd_3 : parseMethodDescriptor "(J)I" = some ⟨[.long], some .int⟩ := by decide +kernel
theorem ef_2_RJR (m : MethodId) (x0 : Addr) (x1 : Int64) (x2 : Addr) : entryFrame m #[(.ref x0), (.long x1), (.ref x2)] 5 = mkF m 0 #[.val (.ref x0), .val (.long x1), .second, .val (.ref x2), .unset] [] := by first | (simp [entryFrame, mkF, argsToLocals, Value.category]; done) | rfl
set_option maxRecDepth 65536 in
set_option maxHeartbeats 40000000 in
theorem rm_b2 (l : Launch) (Z : State) (a0 : Array Value) (hw : ∀ d ∈ tables_1, d.before a0 Z = true) (a1 : Addr) (w1 : Addr) (h0 : Heap) (n0 : Nat) (H1 : Exa Z h0 a1 "com/example/hueline/hueline/model/BigIntArray") (H2 : Fld Z h0 a1 "com/example/hueline/hueline/model/BigIntArray" "layout" "Lcom/example/hueline/hueline/model/Pages;" .null) (H3 : Fld Z h0 a1 "com/example/hueline/hueline/model/BigIntArray" "pages" "[[I" .null) (H4 : Fld Z h0 a1 "com/example/hueline/hueline/model/BigIntArray" "length" "J" (.long (0 : Int64))) (H5 : Fld Z h0 a1 "com/example/hueline/hueline/model/BigIntArray" "flat" "[I" .null) (H6 : n0 ≤ a1) (H7 : n0 ≤ h0.size) (H8 : Old Z n0 h0) (H9 : Exa Z Z.heap w1 "com/example/hueline/hueline/model/Pages") (H10 : Fld Z Z.heap w1 "com/example/hueline/hueline/model/Pages" "mask" "I" (.int (1073741823 : Int32))) (H11 : Fld Z Z.heap w1 "com/example/hueline/hueline/model/Pages" "shift" "I" (.int (30 : Int32))) :
    own_Met l Z (⟨"com/example/hueline/hueline/model/BigIntArray", "<init>", "(JLcom/example/hueline/hueline/model/Pages;)V"⟩ : MethodName) prog_36_method_2_code 5 none ({ frames := 1, cells := 1, slots := 0, locals := 17 } : Room) #[(.ref a1), (.long (0 : Int64)), (.ref w1)] h0 (fun v h L => v = none ∧ Fr n0 L ∧ Keep h0 h [a1]) := by
  intro ws
  refine MetFree.of_bodySF (plainFor_of_name pn_c1) hisR ?_
  intro p e s m args below meth c s₁ Bd hml0 hP hK
  obtain ⟨rfl, hZ, hh⟩ := hP
  have hx := Bd.exec
  have hby := Bd.bytes
  have hml : c.maxLocals = 5 := hml0
  have hown : s.vm.findClass "com/example/hueline/hueline/model/BigIntArray" = some m.cls := findClass_of_methodNamed Bd.named
  have hnm := (name_of_methodNamed Bd.named Bd.method).1
  have hlk : meth.locks = false := Bd.notSynchronized
  have X0 : Stand p l e ({ frames := 1, cells := 1, slots := 0, locals := 17 } : Room) s m #[(.ref a1), (.long (0 : Int64)), (.ref w1)] below meth c s₁ [] 0 0 := Stand.of_body Bd
  have e0 : s₁.heap = h0 := by rw [← hh, Bd.state]; rfl
  have N0 := Fr.nil n0
  refine own_body (Q := fun v h L => v = none ∧ Fr n0 L ∧ Keep h0 h [a1]) ?_
  generalize hΦ : own_Fin s below _ _ _ = Φ
  refine own_cast (ef_2_RJR m a1 (0 : Int64) w1) ?_
  have K0 := Keep.refl h0 [a1]
  show own_Run p e below Φ (s₁.setTop (mkF m 0 #[.val (.ref a1), .val (.long (0 : Int64)), .second, .val (.ref w1), .unset] []))
  refine own_go (fun t k => XS.aloadN X0.here hx rfl (hb hby d2_0) rfl rfl  k) ?_
  obtain ⟨T1, X1, e1, st1⟩ := initO X0 hx hZ hown (hw _ (List.mem_of_getElem? (i := 15) rfl)) (hw _ (List.mem_of_getElem? (i := 16) rfl)) (hw _ (List.mem_of_getElem? (i := 17) rfl)) e0 (g := (mkF m 1 #[.val (.ref a1), .val (.long (0 : Int64)), .second, .val (.ref w1), .unset] [(.ref a1)])) rfl (by rw [hml]; rfl) rfl (hb hby d2_1) (by decide) (W := 0) (by show 2 * 0 + _ ≤ _; exact Nat.le_of_eq rfl) (by decide)
  refine own_go st1 ?_
  refine own_go (fun t k => XS.aloadN X1.here hx rfl (hb hby d2_4) rfl rfl  k) ?_
  refine own_go (fun t k => XS.aloadN X1.here hx rfl (hb hby d2_5) rfl rfl  k) ?_
  obtain ⟨T2, h2, X2, e2, W2, st2⟩ := putF X1 hx hZ hown (host := "") (Or.inl (hw _ (List.mem_of_getElem? (i := 18) rfl))) Via.refl e1 H2 H1 (Or.inr ⟨(hw _ (List.mem_of_getElem? (i := 19) rfl)), rfl, hnm⟩) (hw _ (List.mem_of_getElem? (i := 4) rfl)) (ty := (.object "com/example/hueline/hueline/model/Pages")) (by decide) rfl rfl (g := (mkF m 6 #[.val (.ref a1), .val (.long (0 : Int64)), .second, .val (.ref w1), .unset] [(.ref w1), (.ref a1)])) rfl rfl (hb hby d2_6)
  refine own_go st2 ?_
  have G2 : Fld Z h2 a1 "com/example/hueline/hueline/model/BigIntArray" "layout" "Lcom/example/hueline/hueline/model/Pages;" (.ref w1) := H2.same W2
  have N2 := Fr.snoc X2 N0 H6
  show own_Run p e below Φ (T2.setTop (mkF m 9 #[.val (.ref a1), .val (.long (0 : Int64)), .second, .val (.ref w1), .unset] []))
  refine own_go (fun t k => XS.aloadN X2.here hx rfl (hb hby d2_9) rfl rfl  k) ?_
  refine own_go (fun t k => XS.aloadN X2.here hx rfl (hb hby d2_10) rfl rfl  k) ?_
  refine own_go (fun t k => XS.lloadN X2.here hx rfl (hb hby d2_11) rfl  k) ?_
  have F3 : Old Z n0 h2 := (H8.wr W2 H6)
  have F4 : Fld Z h2 w1 "com/example/hueline/hueline/model/Pages" "mask" "I" (.int (1073741823 : Int32)) := H10.ext F3.2
  have F5 : Fld Z h2 w1 "com/example/hueline/hueline/model/Pages" "shift" "I" (.int (30 : Int32)) := H11.ext F3.2
  have F7 : Exa Z h2 w1 "com/example/hueline/hueline/model/Pages" := H9.ext F3.2
  refine own_callV X2 hx hZ (y := (⟨"com/example/hueline/hueline/model/Pages", "count", "(J)I"⟩ : MethodName)) (z := (⟨"com/example/hueline/hueline/model/Pages", "count", "(J)I"⟩ : MethodName)) (W := 1) (a := w1) (argsL := [(.long (0 : Int64))]) (rest := [(.ref a1)]) hown (hw _ (List.mem_of_getElem? (i := 20) rfl)) (hw _ (List.mem_of_getElem? (i := 21) rfl)) (notFace_of_selects (args := #[]) (mvT hZ (hw _ (List.mem_of_getElem? (i := 23) rfl)))) (hw _ (List.mem_of_getElem? (i := 23) rfl)) (hw _ (List.mem_of_getElem? (i := 22) rfl)) (by decide) (own_bk (rm_cnt l Z a0 hw w1 h2 n0 F4 F5) hZ (hw _ (List.mem_of_getElem? (i := 24) rfl)) (hw _ (List.mem_of_getElem? (i := 10) rfl)) (by decide) (by decide)) e2 F7 (g := (mkF m 12 #[.val (.ref a1), .val (.long (0 : Int64)), .second, .val (.ref w1), .unset] [(.long (0 : Int64)), (.ref w1), (.ref a1)])) rfl (by rw [hml]; rfl) (lenOf pd_3 rfl) rfl (by show 2 * 0 + _ ≤ _; exact Nat.le_of_eq rfl) (hb hby d2_12) (by decide) (by decide) (fun v6 T6 h6 L6 X6 e6 q6 => ?_)
  obtain ⟨rfl, M6, s6⟩ := q6
  replace e6 : T6.heap = h2 := e6.trans s6
  have N6 := Fr.app N2 M6
  have F9 : n0 ≤ h2.size := (Nat.le_trans H7 (Keep.of_wr W2).1)
  have F10 : Keep h0 h2 [a1] := (K0.wr W2 (Or.inl (List.mem_of_getElem? (i := 0) rfl)))
  have F11 : Exa Z h2 a1 "com/example/hueline/hueline/model/BigIntArray" := (H1.wr W2)
  refine own_newRA X6 hx hZ hown (ty := .int) rfl (hw _ (List.mem_of_getElem? (i := 30) rfl)) (hw _ (List.mem_of_getElem? (i := 31) rfl)) e6 (g := (mkF m 15 #[.val (.ref a1), .val (.long (0 : Int64)), .second, .val (.ref w1), .unset] [(.int (0 : Int32)), (.ref a1)])) rfl (hb hby d2_15) rfl (by decide) 0 (by decide) (by decide) (by decide) (by decide) 0 (fun T8 h8 k8 b8 X8 e8 E8 g8 V8 O8 => ?_)
  have ne_a1_b8 : a1 ≠ b8 := Nat.ne_of_lt (Nat.lt_of_lt_of_le F11.lt (Nat.le_of_eq g8.symm))
  replace V8 : Arv Z h8 b8 k8 (.array .int) (0 : Int32) [] .null := V8
  show own_Run p e below Φ (T8.setTop (mkF m 18 #[.val (.ref a1), .val (.long (0 : Int64)), .second, .val (.ref w1), .unset] [(.ref b8), (.ref a1)]))
  have F12 : Fld Z h8 a1 "com/example/hueline/hueline/model/BigIntArray" "pages" "[[I" .null := ((H3.other W2 (Or.inr (slot_ne (Or.inl (hw _ (List.mem_of_getElem? (i := 33) rfl))) (Or.inr (hw _ (List.mem_of_getElem? (i := 19) rfl))) (by decide) (t := (.array (.array .int))) (t' := (.object "com/example/hueline/hueline/model/Pages")) (by decide) (by decide)))).ext E8)
  have F13 : Exa Z h8 a1 "com/example/hueline/hueline/model/BigIntArray" := (F11.ext E8)
  obtain ⟨T14, h14, X14, e14, W14, st14⟩ := putF X8 hx hZ hown (host := "") (Or.inl (hw _ (List.mem_of_getElem? (i := 32) rfl))) Via.refl e8 F12 F13 (Or.inl (hw _ (List.mem_of_getElem? (i := 33) rfl))) (hw _ (List.mem_of_getElem? (i := 4) rfl)) (ty := (.array (.array .int))) (by decide) rfl rfl (g := (mkF m 18 #[.val (.ref a1), .val (.long (0 : Int64)), .second, .val (.ref w1), .unset] [(.ref b8), (.ref a1)])) rfl rfl (hb hby d2_18)
  refine own_go st14 ?_
  have G14 : Fld Z h14 a1 "com/example/hueline/hueline/model/BigIntArray" "pages" "[[I" (.ref b8) := F12.same W14
  have N14 := Fr.snoc X14 N6 H6
  refine own_go (fun t k => XS.aloadN X14.here hx rfl (hb hby d2_21) rfl rfl  k) ?_
  refine own_go (fun t k => XS.lloadN X14.here hx rfl (hb hby d2_22) rfl  k) ?_
  have F15 : Fld Z h14 a1 "com/example/hueline/hueline/model/BigIntArray" "length" "J" (.long (0 : Int64)) := (((H4.other W2 (Or.inr (slot_ne (Or.inl (hw _ (List.mem_of_getElem? (i := 35) rfl))) (Or.inr (hw _ (List.mem_of_getElem? (i := 19) rfl))) (by decide) (t := .long) (t' := (.object "com/example/hueline/hueline/model/Pages")) (by decide) (by decide)))).ext E8).other W14 (Or.inr (slot_ne (Or.inl (hw _ (List.mem_of_getElem? (i := 35) rfl))) (Or.inl (hw _ (List.mem_of_getElem? (i := 33) rfl))) (by decide) (t := .long) (t' := (.array (.array .int))) (by decide) (by decide))))
  have F16 : Exa Z h14 a1 "com/example/hueline/hueline/model/BigIntArray" := (F13.wr W14)
  obtain ⟨T17, h17, X17, e17, W17, st17⟩ := putF X14 hx hZ hown (host := "") (Or.inl (hw _ (List.mem_of_getElem? (i := 34) rfl))) Via.refl e14 F15 F16 (Or.inl (hw _ (List.mem_of_getElem? (i := 35) rfl))) (hw _ (List.mem_of_getElem? (i := 4) rfl)) (ty := .long) (by decide) rfl rfl (g := (mkF m 23 #[.val (.ref a1), .val (.long (0 : Int64)), .second, .val (.ref w1), .unset] [(.long (0 : Int64)), (.ref a1)])) rfl rfl (hb hby d2_23)
  refine own_go st17 ?_
  have G17 : Fld Z h17 a1 "com/example/hueline/hueline/model/BigIntArray" "length" "J" (.long (0 : Int64)) := F15.same W17
  have N17 := Fr.snoc X17 N14 H6
  refine own_go (fun t k => XS.iconst X17.here hx rfl (hb hby d2_26) k) ?_
  show own_Run p e below Φ (T17.setTop (mkF m 27 #[.val (.ref a1), .val (.long (0 : Int64)), .second, .val (.ref w1), .unset] [(.int (0 : Int32))]))
  refine own_go (fun t k => XS.istore X17.here hx rfl (hb hby d2_27) rfl (l' := #[.val (.ref a1), .val (.long (0 : Int64)), .second, .val (.ref w1), .val (.int (0 : Int32))]) rfl k) ?_
  refine own_go (fun t k => XS.iload X17.here hx rfl (hb hby d2_29) rfl  k) ?_
  refine own_go (fun t k => XS.aloadN X17.here hx rfl (hb hby d2_31) rfl rfl  k) ?_
  have F18 : Fld Z h17 a1 "com/example/hueline/hueline/model/BigIntArray" "pages" "[[I" (.ref b8) := (G14.other W17 (Or.inr (slot_ne (Or.inl (hw _ (List.mem_of_getElem? (i := 33) rfl))) (Or.inl (hw _ (List.mem_of_getElem? (i := 35) rfl))) (by decide) (t := (.array (.array .int))) (t' := .long) (by decide) (by decide))))
  obtain ⟨T19, X19, e19, st19⟩ := getF X17 hx hZ hown (host := "") (Or.inl (hw _ (List.mem_of_getElem? (i := 32) rfl))) Via.refl e17 F18 (g := (mkF m 32 #[.val (.ref a1), .val (.long (0 : Int64)), .second, .val (.ref w1), .val (.int (0 : Int32))] [(.ref a1), (.int (0 : Int32))])) rfl rfl (hb hby d2_32)
  refine own_go st19 ?_
  have F20 : Arv Z h17 b8 k8 (.array .int) (0 : Int32) [] .null := ((V8.other W14 (Ne.symm ne_a1_b8)).other W17 (Ne.symm ne_a1_b8))
  refine own_arrlen X19 hx hZ e19 F20 (g := (mkF m 35 #[.val (.ref a1), .val (.long (0 : Int64)), .second, .val (.ref w1), .val (.int (0 : Int32))] [(.ref b8), (.int (0 : Int32))])) rfl rfl (hb hby d2_35) ?_
  show own_Run p e below Φ (T19.setTop (mkF m 36 #[.val (.ref a1), .val (.long (0 : Int64)), .second, .val (.ref w1), .val (.int (0 : Int32))] [(.int (0 : Int32)), (.int (0 : Int32))]))
  refine own_go (fun t k => XS.icmpYes X19.here hx rfl (pc0 := 36) (pc' := 61) rfl (hb hby d2_36) rfl (flt (by decide : ¬ ((0 : Int32) < (0 : Int32)))).2.1 (by decide) (by decide) k) ?_
  refine own_go (fun t k => XS.aloadN X19.here hx rfl (hb hby d2_61) rfl rfl  k) ?_
  refine own_go (fun t k => XS.aloadN X19.here hx rfl (hb hby d2_62) rfl rfl  k) ?_
  obtain ⟨T21, X21, e21, st21⟩ := getF X19 hx hZ hown (host := "") (Or.inl (hw _ (List.mem_of_getElem? (i := 32) rfl))) Via.refl e19 F18 (g := (mkF m 63 #[.val (.ref a1), .val (.long (0 : Int64)), .second, .val (.ref w1), .val (.int (0 : Int32))] [(.ref a1), (.ref a1)])) rfl rfl (hb hby d2_63)
  refine own_go st21 ?_
  refine own_arrlen X21 hx hZ e21 F20 (g := (mkF m 66 #[.val (.ref a1), .val (.long (0 : Int64)), .second, .val (.ref w1), .val (.int (0 : Int32))] [(.ref b8), (.ref a1)])) rfl rfl (hb hby d2_66) ?_
  show own_Run p e below Φ (T21.setTop (mkF m 67 #[.val (.ref a1), .val (.long (0 : Int64)), .second, .val (.ref w1), .val (.int (0 : Int32))] [(.int (0 : Int32)), (.ref a1)]))
  refine own_go (fun t k => XS.iconst X21.here hx rfl (hb hby d2_67) k) ?_
  refine own_go (fun t k => XS.icmpYes X21.here hx rfl (pc0 := 68) (pc' := 80) rfl (hb hby d2_68) rfl (feq (by decide : ¬ ((0 : Int32) = (1 : Int32)))).2 (by decide) (by decide) k) ?_
  refine own_go (fun t k => XS.aconstNull X21.here hx rfl (hb hby d2_80) k) ?_
  have F22 : Fld Z h17 a1 "com/example/hueline/hueline/model/BigIntArray" "flat" "[I" .null := ((((H5.other W2 (Or.inr (slot_ne (Or.inl (hw _ (List.mem_of_getElem? (i := 37) rfl))) (Or.inr (hw _ (List.mem_of_getElem? (i := 19) rfl))) (by decide) (t := (.array .int)) (t' := (.object "com/example/hueline/hueline/model/Pages")) (by decide) (by decide)))).ext E8).other W14 (Or.inr (slot_ne (Or.inl (hw _ (List.mem_of_getElem? (i := 37) rfl))) (Or.inl (hw _ (List.mem_of_getElem? (i := 33) rfl))) (by decide) (t := (.array .int)) (t' := (.array (.array .int))) (by decide) (by decide)))).other W17 (Or.inr (slot_ne (Or.inl (hw _ (List.mem_of_getElem? (i := 37) rfl))) (Or.inl (hw _ (List.mem_of_getElem? (i := 35) rfl))) (by decide) (t := (.array .int)) (t' := .long) (by decide) (by decide))))
  have F23 : Exa Z h17 a1 "com/example/hueline/hueline/model/BigIntArray" := (F16.wr W17)
  obtain ⟨T24, h24, X24, e24, W24, st24⟩ := putF X21 hx hZ hown (host := "") (Or.inl (hw _ (List.mem_of_getElem? (i := 36) rfl))) Via.refl e21 F22 F23 (Or.inl (hw _ (List.mem_of_getElem? (i := 37) rfl))) (hw _ (List.mem_of_getElem? (i := 4) rfl)) (ty := (.array .int)) (by decide) rfl rfl (g := (mkF m 81 #[.val (.ref a1), .val (.long (0 : Int64)), .second, .val (.ref w1), .val (.int (0 : Int32))] [.null, (.ref a1)])) rfl rfl (hb hby d2_81)
  refine own_go st24 ?_
  have G24 : Fld Z h24 a1 "com/example/hueline/hueline/model/BigIntArray" "flat" "[I" .null := F22.same W24
  have N24 := Fr.snoc X24 N17 H6
  have F25 : Keep h0 h24 [a1] := ((((F10.ext E8).wr W14 (Or.inl (List.mem_of_getElem? (i := 0) rfl))).wr W17 (Or.inl (List.mem_of_getElem? (i := 0) rfl))).wr W24 (Or.inl (List.mem_of_getElem? (i := 0) rfl)))
  subst hΦ
  exact own_retV X24 hx Bd.returns hlk (hb hby d2_84) e24 ⟨rfl, N24, F25⟩ (by decide) (by decide)
theorem d1_0 : decode prog_36_method_1_code 0 = .ok (.aload_n 0, 1) := by decide +kernel
theorem d1_1 : decode prog_36_method_1_code 1 = .ok (.lload_n 1, 1) := by decide +kernel
theorem d1_2 : decode prog_36_method_1_code 2 = .ok (.getstatic 1, 3) := by decide +kernel
theorem d1_5 : decode prog_36_method_1_code 5 = .ok (.invokespecial 7, 3) := by decide +kernel
theorem d1_8 : decode prog_36_method_1_code 8 = .ok (.return_, 1) := by decide +kernel
theorem pd_1 : parseMethodDescriptor "(JLcom/example/hueline/hueline/model/Pages;)V" = some ⟨[.long, (.object "com/example/hueline/hueline/model/Pages")], none⟩ := by decide +kernel
theorem ef_1_RJ (m : MethodId) (x0 : Addr) (x1 : Int64) : entryFrame m #[(.ref x0), (.long x1)] 3 = mkF m 0 #[.val (.ref x0), .val (.long x1), .second] [] := by first | (simp [entryFrame, mkF, argsToLocals, Value.category]; done) | rfl
set_option maxRecDepth 65536 in
set_option maxHeartbeats 40000000 in
theorem rm_b1 (l : Launch) (Z : State) (a0 : Array Value) (hw : ∀ d ∈ tables_1, d.before a0 Z = true) (a1 : Addr) (w1 : Addr) (h0 : Heap) (n0 : Nat) (H1 : Exa Z h0 a1 "com/example/hueline/hueline/model/BigIntArray") (H2 : Fld Z h0 a1 "com/example/hueline/hueline/model/BigIntArray" "layout" "Lcom/example/hueline/hueline/model/Pages;" .null) (H3 : Fld Z h0 a1 "com/example/hueline/hueline/model/BigIntArray" "pages" "[[I" .null) (H4 : Fld Z h0 a1 "com/example/hueline/hueline/model/BigIntArray" "length" "J" (.long (0 : Int64))) (H5 : Fld Z h0 a1 "com/example/hueline/hueline/model/BigIntArray" "flat" "[I" .null) (H6 : n0 ≤ a1) (H7 : n0 ≤ h0.size) (H8 : Old Z n0 h0) (H9 : Exa Z Z.heap w1 "com/example/hueline/hueline/model/Pages") (H10 : Fld Z Z.heap w1 "com/example/hueline/hueline/model/Pages" "mask" "I" (.int (1073741823 : Int32))) (H11 : Fld Z Z.heap w1 "com/example/hueline/hueline/model/Pages" "shift" "I" (.int (30 : Int32))) (H12 : Sta Z Z.heap "com/example/hueline/hueline/model/Pages" "STANDARD" "Lcom/example/hueline/hueline/model/Pages;" (.ref w1)) :
    own_Met l Z (⟨"com/example/hueline/hueline/model/BigIntArray", "<init>", "(J)V"⟩ : MethodName) prog_36_method_1_code 3 none ({ frames := 2, cells := 1, slots := 0, locals := 33 } : Room) #[(.ref a1), (.long (0 : Int64))] h0 (fun v h L => v = none ∧ Fr n0 L ∧ Keep h0 h [a1]) := by
  intro ws
  refine MetFree.of_bodySF (plainFor_of_name pn_c1) hisR ?_
  intro p e s m args below meth c s₁ Bd hml0 hP hK
  obtain ⟨rfl, hZ, hh⟩ := hP
  have hx := Bd.exec
  have hby := Bd.bytes
  have hml : c.maxLocals = 3 := hml0
  have hown : s.vm.findClass "com/example/hueline/hueline/model/BigIntArray" = some m.cls := findClass_of_methodNamed Bd.named
  have hnm := (name_of_methodNamed Bd.named Bd.method).1
  have hlk : meth.locks = false := Bd.notSynchronized
  have X0 : Stand p l e ({ frames := 2, cells := 1, slots := 0, locals := 33 } : Room) s m #[(.ref a1), (.long (0 : Int64))] below meth c s₁ [] 0 0 := Stand.of_body Bd
  have e0 : s₁.heap = h0 := by rw [← hh, Bd.state]; rfl
  have N0 := Fr.nil n0
  refine own_body (Q := fun v h L => v = none ∧ Fr n0 L ∧ Keep h0 h [a1]) ?_
  generalize hΦ : own_Fin s below _ _ _ = Φ
  refine own_cast (ef_1_RJ m a1 (0 : Int64)) ?_
  have K0 := Keep.refl h0 [a1]
  show own_Run p e below Φ (s₁.setTop (mkF m 0 #[.val (.ref a1), .val (.long (0 : Int64)), .second] []))
  refine own_go (fun t k => XS.aloadN X0.here hx rfl (hb hby d1_0) rfl rfl  k) ?_
  refine own_go (fun t k => XS.lloadN X0.here hx rfl (hb hby d1_1) rfl  k) ?_
  obtain ⟨T1, X1, e1, st1⟩ := getS2 X0 hx hZ hown (host := "") (Or.inl (hw _ (List.mem_of_getElem? (i := 9) rfl))) Via.refl e0 (H12.ext H8.2) (g := (mkF m 2 #[.val (.ref a1), .val (.long (0 : Int64)), .second] [(.long (0 : Int64)), (.ref a1)])) rfl (hb hby d1_2)
  refine own_go st1 ?_
  refine own_callI X1 hx hZ (y := (⟨"com/example/hueline/hueline/model/BigIntArray", "<init>", "(JLcom/example/hueline/hueline/model/Pages;)V"⟩ : MethodName)) (W := 0) (a := a1) (argsL := [(.long (0 : Int64)), (.ref w1)]) (rest := []) rfl hown (hw _ (List.mem_of_getElem? (i := 12) rfl)) (hw _ (List.mem_of_getElem? (i := 13) rfl)) (hw _ (List.mem_of_getElem? (i := 14) rfl)) (by decide) (own_bk (rm_b2 l Z a0 hw a1 w1 h0 n0 H1 H2 H3 H4 H5 H6 H7 H8 H9 H10 H11) hZ (hw _ (List.mem_of_getElem? (i := 14) rfl)) (hw _ (List.mem_of_getElem? (i := 5) rfl)) (by decide) (by decide)) e1 (g := (mkF m 5 #[.val (.ref a1), .val (.long (0 : Int64)), .second] [(.ref w1), (.long (0 : Int64)), (.ref a1)])) rfl (by rw [hml]; rfl) (lenOf pd_1 rfl) rfl (by show 2 * 0 + _ ≤ _; exact Nat.le_of_eq rfl) (hb hby d1_5) (by decide) (by decide) (fun v2 T2 h2 L2 X2 e2 q2 => ?_)
  obtain ⟨rfl, M2, K2⟩ := q2
  have N2 := Fr.app N0 M2
  have F3 : Keep h0 h2 [a1] := (K0.trans K2 (allS (P := fun x => x ∈ [a1] ∨ h0.size ≤ x) (Or.inl (List.mem_of_getElem? (i := 0) rfl)) all0))
  subst hΦ
  exact own_retV X2 hx Bd.returns hlk (hb hby d1_8) e2 ⟨rfl, N2, F3⟩ (by decide) (by decide)
theorem d6_0 : decode prog_41_method_8_code 0 = .ok (.aload_n 0, 1) := by decide +kernel
theorem d6_1 : decode prog_41_method_8_code 1 = .ok (.getfield 20, 3) := by decide +kernel
theorem d6_4 : decode prog_41_method_8_code 4 = .ok (.iload_n 1, 1) := by decide +kernel
theorem d6_5 : decode prog_41_method_8_code 5 = .ok (.iconst 1, 1) := by decide +kernel
theorem d6_6 : decode prog_41_method_8_code 6 = .ok (.iadd, 1) := by decide +kernel
theorem d6_7 : decode prog_41_method_8_code 7 = .ok (.laload, 1) := by decide +kernel
theorem d6_8 : decode prog_41_method_8_code 8 = .ok (.aload_n 0, 1) := by decide +kernel
theorem d6_9 : decode prog_41_method_8_code 9 = .ok (.getfield 20, 3) := by decide +kernel
theorem d6_12 : decode prog_41_method_8_code 12 = .ok (.iload_n 1, 1) := by decide +kernel
theorem d6_13 : decode prog_41_method_8_code 13 = .ok (.laload, 1) := by decide +kernel
theorem d6_14 : decode prog_41_method_8_code 14 = .ok (.lsub, 1) := by decide +kernel
theorem d6_15 : decode prog_41_method_8_code 15 = .ok (.l2i, 1) := by decide +kernel
theorem d6_16 : decode prog_41_method_8_code 16 = .ok (.ireturn, 1) := by decide +kernel
theorem pn_c4 : plainName "com/example/hueline/hueline/model/Graph" = true := by first | (simp [plainName, overriddenIn]; done) | decide +kernel
theorem ef_6_RI (m : MethodId) (x0 : Addr) (x1 : Int32) : entryFrame m #[(.ref x0), (.int x1)] 2 = mkF m 0 #[.val (.ref x0), .val (.int x1)] [] := by first | (simp [entryFrame, mkF, argsToLocals, Value.category]; done) | rfl
set_option maxRecDepth 65536 in
set_option maxHeartbeats 40000000 in
theorem rm_dg0 (l : Launch) (Z : State) (a0 : Array Value) (hw : ∀ d ∈ tables_1, d.before a0 Z = true) (a1 : Addr) (a2 : Addr) (k2 : ClassId) (y0 : Int64) (y1 : Int64) (y2 : Int64) (y3 : Int64) (h0 : Heap) (n0 : Nat) (H1 : Fld Z h0 a1 "com/example/hueline/hueline/model/Graph" "offsets" "[J" (.ref a2)) (H2 : Arv Z h0 a2 k2 .long (4 : Int32) [(.long y0), (.long y1), (.long y2), (.long y3)] (.long (0 : Int64))) :
    own_Met l Z (⟨"com/example/hueline/hueline/model/Graph", "degree", "(I)I"⟩ : MethodName) prog_41_method_8_code 2 (some .int) ({ frames := 0, cells := 0, slots := 0, locals := 0 } : Room) #[(.ref a1), (.int (0 : Int32))] h0 (fun v h L => v = some (.int ((y1 - y0).toInt32)) ∧ Fr n0 L ∧ h = h0) := by
  intro ws
  refine MetFree.of_bodySF (plainFor_of_name pn_c4) hisR ?_
  intro p e s m args below meth c s₁ Bd hml0 hP hK
  obtain ⟨rfl, hZ, hh⟩ := hP
  have hx := Bd.exec
  have hby := Bd.bytes
  have hml : c.maxLocals = 2 := hml0
  have hown : s.vm.findClass "com/example/hueline/hueline/model/Graph" = some m.cls := findClass_of_methodNamed Bd.named
  have hnm := (name_of_methodNamed Bd.named Bd.method).1
  have hlk : meth.locks = false := Bd.notSynchronized
  have X0 : Stand p l e ({ frames := 0, cells := 0, slots := 0, locals := 0 } : Room) s m #[(.ref a1), (.int (0 : Int32))] below meth c s₁ [] 0 0 := Stand.of_body Bd
  have e0 : s₁.heap = h0 := by rw [← hh, Bd.state]; rfl
  have N0 := Fr.nil n0
  refine own_body (Q := fun v h L => v = some (.int ((y1 - y0).toInt32)) ∧ Fr n0 L ∧ h = h0) ?_
  generalize hΦ : own_Fin s below _ _ _ = Φ
  refine own_cast (ef_6_RI m a1 (0 : Int32)) ?_
  show own_Run p e below Φ (s₁.setTop (mkF m 0 #[.val (.ref a1), .val (.int (0 : Int32))] []))
  refine own_go (fun t k => XS.aloadN X0.here hx rfl (hb hby d6_0) rfl rfl  k) ?_
  obtain ⟨T1, X1, e1, st1⟩ := getF X0 hx hZ hown (host := "") (Or.inl (hw _ (List.mem_of_getElem? (i := 51) rfl))) Via.refl e0 H1 (g := (mkF m 1 #[.val (.ref a1), .val (.int (0 : Int32))] [(.ref a1)])) rfl rfl (hb hby d6_1)
  refine own_go st1 ?_
  refine own_go (fun t k => XS.iloadN X1.here hx rfl (hb hby d6_4) rfl  k) ?_
  refine own_go (fun t k => XS.iconst X1.here hx rfl (hb hby d6_5) k) ?_
  refine own_go (fun t k => XS.iadd X1.here hx rfl (hb hby d6_6) rfl k) ?_
  show own_Run p e below Φ (T1.setTop (mkF m 7 #[.val (.ref a1), .val (.int (0 : Int32))] [(.int ((0 : Int32) + (1 : Int32))), (.ref a2)]))
  rw [show ((0 : Int32) + (1 : Int32)) = (1 : Int32) from by decide]
  show own_Run p e below Φ (T1.setTop (mkF m 7 #[.val (.ref a1), .val (.int (0 : Int32))] [(.int (1 : Int32)), (.ref a2)]))
  refine own_laload X1 hx hZ e1 H2 (j := (1 : Int32)) (v := (.long y1)) ⟨by decide, by decide⟩ rfl (g := (mkF m 7 #[.val (.ref a1), .val (.int (0 : Int32))] [(.int (1 : Int32)), (.ref a2)])) rfl rfl (hb hby d6_7) ?_
  refine own_go (fun t k => XS.aloadN X1.here hx rfl (hb hby d6_8) rfl rfl  k) ?_
  obtain ⟨T2, X2, e2, st2⟩ := getF X1 hx hZ hown (host := "") (Or.inl (hw _ (List.mem_of_getElem? (i := 51) rfl))) Via.refl e1 H1 (g := (mkF m 9 #[.val (.ref a1), .val (.int (0 : Int32))] [(.ref a1), (.long y1)])) rfl rfl (hb hby d6_9)
  refine own_go st2 ?_
  refine own_go (fun t k => XS.iloadN X2.here hx rfl (hb hby d6_12) rfl  k) ?_
  refine own_laload X2 hx hZ e2 H2 (j := (0 : Int32)) (v := (.long y0)) ⟨by decide, by decide⟩ rfl (g := (mkF m 13 #[.val (.ref a1), .val (.int (0 : Int32))] [(.int (0 : Int32)), (.ref a2), (.long y1)])) rfl rfl (hb hby d6_13) ?_
  show own_Run p e below Φ (T2.setTop (mkF m 14 #[.val (.ref a1), .val (.int (0 : Int32))] [(.long y0), (.long y1)]))
  refine own_go (fun t k => XS.lsub X2.here hx rfl (hb hby d6_14) rfl k) ?_
  refine own_go (fun t k => XS.l2i X2.here hx rfl (hb hby d6_15) rfl k) ?_
  subst hΦ
  exact own_retI X2 hx Bd.returns hlk (hb hby d6_16) e2 ⟨rfl, N0, rfl⟩ (by decide) (by decide)
set_option maxRecDepth 65536 in
set_option maxHeartbeats 40000000 in
theorem rm_dg1 (l : Launch) (Z : State) (a0 : Array Value) (hw : ∀ d ∈ tables_1, d.before a0 Z = true) (a1 : Addr) (a2 : Addr) (k2 : ClassId) (y0 : Int64) (y1 : Int64) (y2 : Int64) (y3 : Int64) (h0 : Heap) (n0 : Nat) (H1 : Fld Z h0 a1 "com/example/hueline/hueline/model/Graph" "offsets" "[J" (.ref a2)) (H2 : Arv Z h0 a2 k2 .long (4 : Int32) [(.long y0), (.long y1), (.long y2), (.long y3)] (.long (0 : Int64))) :
    own_Met l Z (⟨"com/example/hueline/hueline/model/Graph", "degree", "(I)I"⟩ : MethodName) prog_41_method_8_code 2 (some .int) ({ frames := 0, cells := 0, slots := 0, locals := 0 } : Room) #[(.ref a1), (.int (1 : Int32))] h0 (fun v h L => v = some (.int ((y2 - y1).toInt32)) ∧ Fr n0 L ∧ h = h0) := by
  intro ws
  refine MetFree.of_bodySF (plainFor_of_name pn_c4) hisR ?_
  intro p e s m args below meth c s₁ Bd hml0 hP hK
  obtain ⟨rfl, hZ, hh⟩ := hP
  have hx := Bd.exec
  have hby := Bd.bytes
  have hml : c.maxLocals = 2 := hml0
  have hown : s.vm.findClass "com/example/hueline/hueline/model/Graph" = some m.cls := findClass_of_methodNamed Bd.named
  have hnm := (name_of_methodNamed Bd.named Bd.method).1
  have hlk : meth.locks = false := Bd.notSynchronized
  have X0 : Stand p l e ({ frames := 0, cells := 0, slots := 0, locals := 0 } : Room) s m #[(.ref a1), (.int (1 : Int32))] below meth c s₁ [] 0 0 := Stand.of_body Bd
  have e0 : s₁.heap = h0 := by rw [← hh, Bd.state]; rfl
  have N0 := Fr.nil n0
  refine own_body (Q := fun v h L => v = some (.int ((y2 - y1).toInt32)) ∧ Fr n0 L ∧ h = h0) ?_
  generalize hΦ : own_Fin s below _ _ _ = Φ
  refine own_cast (ef_6_RI m a1 (1 : Int32)) ?_
  show own_Run p e below Φ (s₁.setTop (mkF m 0 #[.val (.ref a1), .val (.int (1 : Int32))] []))
  refine own_go (fun t k => XS.aloadN X0.here hx rfl (hb hby d6_0) rfl rfl  k) ?_
  obtain ⟨T1, X1, e1, st1⟩ := getF X0 hx hZ hown (host := "") (Or.inl (hw _ (List.mem_of_getElem? (i := 51) rfl))) Via.refl e0 H1 (g := (mkF m 1 #[.val (.ref a1), .val (.int (1 : Int32))] [(.ref a1)])) rfl rfl (hb hby d6_1)
  refine own_go st1 ?_
  refine own_go (fun t k => XS.iloadN X1.here hx rfl (hb hby d6_4) rfl  k) ?_
  refine own_go (fun t k => XS.iconst X1.here hx rfl (hb hby d6_5) k) ?_
  refine own_go (fun t k => XS.iadd X1.here hx rfl (hb hby d6_6) rfl k) ?_
  show own_Run p e below Φ (T1.setTop (mkF m 7 #[.val (.ref a1), .val (.int (1 : Int32))] [(.int ((1 : Int32) + (1 : Int32))), (.ref a2)]))
  rw [show ((1 : Int32) + (1 : Int32)) = (2 : Int32) from by decide]
  show own_Run p e below Φ (T1.setTop (mkF m 7 #[.val (.ref a1), .val (.int (1 : Int32))] [(.int (2 : Int32)), (.ref a2)]))
  refine own_laload X1 hx hZ e1 H2 (j := (2 : Int32)) (v := (.long y2)) ⟨by decide, by decide⟩ rfl (g := (mkF m 7 #[.val (.ref a1), .val (.int (1 : Int32))] [(.int (2 : Int32)), (.ref a2)])) rfl rfl (hb hby d6_7) ?_
  refine own_go (fun t k => XS.aloadN X1.here hx rfl (hb hby d6_8) rfl rfl  k) ?_
  obtain ⟨T2, X2, e2, st2⟩ := getF X1 hx hZ hown (host := "") (Or.inl (hw _ (List.mem_of_getElem? (i := 51) rfl))) Via.refl e1 H1 (g := (mkF m 9 #[.val (.ref a1), .val (.int (1 : Int32))] [(.ref a1), (.long y2)])) rfl rfl (hb hby d6_9)
  refine own_go st2 ?_
  refine own_go (fun t k => XS.iloadN X2.here hx rfl (hb hby d6_12) rfl  k) ?_
  refine own_laload X2 hx hZ e2 H2 (j := (1 : Int32)) (v := (.long y1)) ⟨by decide, by decide⟩ rfl (g := (mkF m 13 #[.val (.ref a1), .val (.int (1 : Int32))] [(.int (1 : Int32)), (.ref a2), (.long y2)])) rfl rfl (hb hby d6_13) ?_
  show own_Run p e below Φ (T2.setTop (mkF m 14 #[.val (.ref a1), .val (.int (1 : Int32))] [(.long y1), (.long y2)]))
  refine own_go (fun t k => XS.lsub X2.here hx rfl (hb hby d6_14) rfl k) ?_
  refine own_go (fun t k => XS.l2i X2.here hx rfl (hb hby d6_15) rfl k) ?_
  subst hΦ
  exact own_retI X2 hx Bd.returns hlk (hb hby d6_16) e2 ⟨rfl, N0, rfl⟩ (by decide) (by decide)
set_option maxRecDepth 65536 in
set_option maxHeartbeats 40000000 in
theorem rm_dg2 (l : Launch) (Z : State) (a0 : Array Value) (hw : ∀ d ∈ tables_1, d.before a0 Z = true) (a1 : Addr) (a2 : Addr) (k2 : ClassId) (y0 : Int64) (y1 : Int64) (y2 : Int64) (y3 : Int64) (h0 : Heap) (n0 : Nat) (H1 : Fld Z h0 a1 "com/example/hueline/hueline/model/Graph" "offsets" "[J" (.ref a2)) (H2 : Arv Z h0 a2 k2 .long (4 : Int32) [(.long y0), (.long y1), (.long y2), (.long y3)] (.long (0 : Int64))) :
    own_Met l Z (⟨"com/example/hueline/hueline/model/Graph", "degree", "(I)I"⟩ : MethodName) prog_41_method_8_code 2 (some .int) ({ frames := 0, cells := 0, slots := 0, locals := 0 } : Room) #[(.ref a1), (.int (2 : Int32))] h0 (fun v h L => v = some (.int ((y3 - y2).toInt32)) ∧ Fr n0 L ∧ h = h0) := by
  intro ws
  refine MetFree.of_bodySF (plainFor_of_name pn_c4) hisR ?_
  intro p e s m args below meth c s₁ Bd hml0 hP hK
  obtain ⟨rfl, hZ, hh⟩ := hP
  have hx := Bd.exec
  have hby := Bd.bytes
  have hml : c.maxLocals = 2 := hml0
  have hown : s.vm.findClass "com/example/hueline/hueline/model/Graph" = some m.cls := findClass_of_methodNamed Bd.named
  have hnm := (name_of_methodNamed Bd.named Bd.method).1
  have hlk : meth.locks = false := Bd.notSynchronized
  have X0 : Stand p l e ({ frames := 0, cells := 0, slots := 0, locals := 0 } : Room) s m #[(.ref a1), (.int (2 : Int32))] below meth c s₁ [] 0 0 := Stand.of_body Bd
  have e0 : s₁.heap = h0 := by rw [← hh, Bd.state]; rfl
  have N0 := Fr.nil n0
  refine own_body (Q := fun v h L => v = some (.int ((y3 - y2).toInt32)) ∧ Fr n0 L ∧ h = h0) ?_
  generalize hΦ : own_Fin s below _ _ _ = Φ
  refine own_cast (ef_6_RI m a1 (2 : Int32)) ?_
  show own_Run p e below Φ (s₁.setTop (mkF m 0 #[.val (.ref a1), .val (.int (2 : Int32))] []))
  refine own_go (fun t k => XS.aloadN X0.here hx rfl (hb hby d6_0) rfl rfl  k) ?_
  obtain ⟨T1, X1, e1, st1⟩ := getF X0 hx hZ hown (host := "") (Or.inl (hw _ (List.mem_of_getElem? (i := 51) rfl))) Via.refl e0 H1 (g := (mkF m 1 #[.val (.ref a1), .val (.int (2 : Int32))] [(.ref a1)])) rfl rfl (hb hby d6_1)
  refine own_go st1 ?_
  refine own_go (fun t k => XS.iloadN X1.here hx rfl (hb hby d6_4) rfl  k) ?_
  refine own_go (fun t k => XS.iconst X1.here hx rfl (hb hby d6_5) k) ?_
  refine own_go (fun t k => XS.iadd X1.here hx rfl (hb hby d6_6) rfl k) ?_
  show own_Run p e below Φ (T1.setTop (mkF m 7 #[.val (.ref a1), .val (.int (2 : Int32))] [(.int ((2 : Int32) + (1 : Int32))), (.ref a2)]))
  rw [show ((2 : Int32) + (1 : Int32)) = (3 : Int32) from by decide]
  show own_Run p e below Φ (T1.setTop (mkF m 7 #[.val (.ref a1), .val (.int (2 : Int32))] [(.int (3 : Int32)), (.ref a2)]))
  refine own_laload X1 hx hZ e1 H2 (j := (3 : Int32)) (v := (.long y3)) ⟨by decide, by decide⟩ rfl (g := (mkF m 7 #[.val (.ref a1), .val (.int (2 : Int32))] [(.int (3 : Int32)), (.ref a2)])) rfl rfl (hb hby d6_7) ?_
  refine own_go (fun t k => XS.aloadN X1.here hx rfl (hb hby d6_8) rfl rfl  k) ?_
  obtain ⟨T2, X2, e2, st2⟩ := getF X1 hx hZ hown (host := "") (Or.inl (hw _ (List.mem_of_getElem? (i := 51) rfl))) Via.refl e1 H1 (g := (mkF m 9 #[.val (.ref a1), .val (.int (2 : Int32))] [(.ref a1), (.long y3)])) rfl rfl (hb hby d6_9)
  refine own_go st2 ?_
  refine own_go (fun t k => XS.iloadN X2.here hx rfl (hb hby d6_12) rfl  k) ?_
  refine own_laload X2 hx hZ e2 H2 (j := (2 : Int32)) (v := (.long y2)) ⟨by decide, by decide⟩ rfl (g := (mkF m 13 #[.val (.ref a1), .val (.int (2 : Int32))] [(.int (2 : Int32)), (.ref a2), (.long y3)])) rfl rfl (hb hby d6_13) ?_
  show own_Run p e below Φ (T2.setTop (mkF m 14 #[.val (.ref a1), .val (.int (2 : Int32))] [(.long y2), (.long y3)]))
  refine own_go (fun t k => XS.lsub X2.here hx rfl (hb hby d6_14) rfl k) ?_
  refine own_go (fun t k => XS.l2i X2.here hx rfl (hb hby d6_15) rfl k) ?_
  subst hΦ
  exact own_retI X2 hx Bd.returns hlk (hb hby d6_16) e2 ⟨rfl, N0, rfl⟩ (by decide) (by decide)
theorem d5_0 : decode prog_41_method_1_code 0 = .ok (.aload_n 0, 1) := by decide +kernel
theorem d5_1 : decode prog_41_method_1_code 1 = .ok (.invokespecial 1, 3) := by decide +kernel
theorem d5_4 : decode prog_41_method_1_code 4 = .ok (.aload_n 0, 1) := by decide +kernel
theorem d5_5 : decode prog_41_method_1_code 5 = .ok (.aload_n 1, 1) := by decide +kernel
theorem d5_6 : decode prog_41_method_1_code 6 = .ok (.putfield 7, 3) := by decide +kernel
theorem d5_9 : decode prog_41_method_1_code 9 = .ok (.aload_n 0, 1) := by decide +kernel
theorem d5_10 : decode prog_41_method_1_code 10 = .ok (.aload_n 2, 1) := by decide +kernel
theorem d5_11 : decode prog_41_method_1_code 11 = .ok (.putfield 13, 3) := by decide +kernel
theorem d5_14 : decode prog_41_method_1_code 14 = .ok (.aload_n 0, 1) := by decide +kernel
theorem d5_15 : decode prog_41_method_1_code 15 = .ok (.aload_n 3, 1) := by decide +kernel
theorem d5_16 : decode prog_41_method_1_code 16 = .ok (.putfield 17, 3) := by decide +kernel
theorem d5_19 : decode prog_41_method_1_code 19 = .ok (.aload_n 0, 1) := by decide +kernel
theorem d5_20 : decode prog_41_method_1_code 20 = .ok (.aload 4, 2) := by decide +kernel
theorem d5_22 : decode prog_41_method_1_code 22 = .ok (.putfield 20, 3) := by decide +kernel
theorem d5_25 : decode prog_41_method_1_code 25 = .ok (.aload_n 0, 1) := by decide +kernel
theorem d5_26 : decode prog_41_method_1_code 26 = .ok (.aload 5, 2) := by decide +kernel
theorem d5_28 : decode prog_41_method_1_code 28 = .ok (.putfield 23, 3) := by decide +kernel
theorem d5_31 : decode prog_41_method_1_code 31 = .ok (.iconst 0, 1) := by decide +kernel
theorem d5_32 : decode prog_41_method_1_code 32 = .ok (.istore 6, 2) := by decide +kernel
theorem d5_34 : decode prog_41_method_1_code 34 = .ok (.iconst 0, 1) := by decide +kernel
theorem d5_35 : decode prog_41_method_1_code 35 = .ok (.istore 7, 2) := by decide +kernel
theorem d5_37 : decode prog_41_method_1_code 37 = .ok (.iload 7, 2) := by decide +kernel
theorem d5_39 : decode prog_41_method_1_code 39 = .ok (.aload_n 1, 1) := by decide +kernel
theorem d5_40 : decode prog_41_method_1_code 40 = .ok (.arraylength, 1) := by decide +kernel
theorem d5_41 : decode prog_41_method_1_code 41 = .ok (.if_icmp .ge 22, 3) := by decide +kernel
theorem d5_44 : decode prog_41_method_1_code 44 = .ok (.iload 6, 2) := by decide +kernel
theorem d5_46 : decode prog_41_method_1_code 46 = .ok (.aload_n 0, 1) := by decide +kernel
theorem d5_47 : decode prog_41_method_1_code 47 = .ok (.iload 7, 2) := by decide +kernel
theorem d5_49 : decode prog_41_method_1_code 49 = .ok (.invokevirtual 26, 3) := by decide +kernel
theorem d5_52 : decode prog_41_method_1_code 52 = .ok (.invokestatic 30, 3) := by decide +kernel
theorem d5_55 : decode prog_41_method_1_code 55 = .ok (.istore 6, 2) := by decide +kernel
theorem d5_57 : decode prog_41_method_1_code 57 = .ok (.iinc 7 1, 3) := by decide +kernel
theorem d5_60 : decode prog_41_method_1_code 60 = .ok (.goto (-23), 3) := by decide +kernel
theorem d5_63 : decode prog_41_method_1_code 63 = .ok (.aload_n 0, 1) := by decide +kernel
theorem d5_64 : decode prog_41_method_1_code 64 = .ok (.iload 6, 2) := by decide +kernel
theorem d5_66 : decode prog_41_method_1_code 66 = .ok (.putfield 36, 3) := by decide +kernel
theorem d5_69 : decode prog_41_method_1_code 69 = .ok (.return_, 1) := by decide +kernel
theorem pd_5 : parseMethodDescriptor "(I)I" = some ⟨[.int], some .int⟩ := by decide +kernel
theorem pd_6 : parseMethodDescriptor "(II)I" = some ⟨[.int, .int], some .int⟩ := by decide +kernel
theorem ef_5_RRRRRR (m : MethodId) (x0 : Addr) (x1 : Addr) (x2 : Addr) (x3 : Addr) (x4 : Addr) (x5 : Addr) : entryFrame m #[(.ref x0), (.ref x1), (.ref x2), (.ref x3), (.ref x4), (.ref x5)] 8 = mkF m 0 #[.val (.ref x0), .val (.ref x1), .val (.ref x2), .val (.ref x3), .val (.ref x4), .val (.ref x5), .unset, .unset] [] := by first | (simp [entryFrame, mkF, argsToLocals, Value.category]; done) | rfl
set_option maxRecDepth 65536 in
set_option maxHeartbeats 40000000 in
theorem rm_gr (l : Launch) (Z : State) (a0 : Array Value) (hw : ∀ d ∈ tables_1, d.before a0 Z = true) (a1 : Addr) (a2 : Addr) (a3 : Addr) (a4 : Addr) (a5 : Addr) (a6 : Addr) (k2 : ClassId) (k5 : ClassId) (v0 : Value) (v1 : Value) (v2 : Value) (y0 : Int64) (y1 : Int64) (y2 : Int64) (y3 : Int64) (h0 : Heap) (n0 : Nat) (H1 : Exa Z h0 a1 "com/example/hueline/hueline/model/Graph") (H2 : Fld Z h0 a1 "com/example/hueline/hueline/model/Graph" "ids" "[J" .null) (H3 : Fld Z h0 a1 "com/example/hueline/hueline/model/Graph" "sources" "Lcom/example/hueline/hueline/model/BigIntArray;" .null) (H4 : Fld Z h0 a1 "com/example/hueline/hueline/model/Graph" "targets" "Lcom/example/hueline/hueline/model/BigIntArray;" .null) (H5 : Fld Z h0 a1 "com/example/hueline/hueline/model/Graph" "offsets" "[J" .null) (H6 : Fld Z h0 a1 "com/example/hueline/hueline/model/Graph" "incidences" "Lcom/example/hueline/hueline/model/BigIntArray;" .null) (H7 : Fld Z h0 a1 "com/example/hueline/hueline/model/Graph" "maxDegree" "I" (.int (0 : Int32))) (H8 : n0 ≤ a1) (H9 : Arv Z h0 a2 k2 .long (3 : Int32) [v0, v1, v2] (.long (0 : Int64))) (H10 : Arv Z h0 a5 k5 .long (4 : Int32) [(.long y0), (.long y1), (.long y2), (.long y3)] (.long (0 : Int64))) (H11 : a2 ≠ a1) (H12 : a5 ≠ a1) :
    own_Met l Z (⟨"com/example/hueline/hueline/model/Graph", "<init>", "([JLcom/example/hueline/hueline/model/BigIntArray;Lcom/example/hueline/hueline/model/BigIntArray;[JLcom/example/hueline/hueline/model/BigIntArray;)V"⟩ : MethodName) prog_41_method_1_code 8 none ({ frames := 1, cells := 0, slots := 0, locals := 14 } : Room) #[(.ref a1), (.ref a2), (.ref a3), (.ref a4), (.ref a5), (.ref a6)] h0 (fun v h L => v = none ∧ Fr n0 L ∧ Keep h0 h [a1] ∧ Fld Z h a1 "com/example/hueline/hueline/model/Graph" "ids" "[J" (.ref a2) ∧ Fld Z h a1 "com/example/hueline/hueline/model/Graph" "offsets" "[J" (.ref a5) ∧ Fld Z h a1 "com/example/hueline/hueline/model/Graph" "maxDegree" "I" (.int (own_max (own_max (own_max (0 : Int32) ((y1 - y0).toInt32)) ((y2 - y1).toInt32)) ((y3 - y2).toInt32)))) := by
  intro ws
  refine MetFree.of_bodySF (plainFor_of_name pn_c4) hisR ?_
  intro p e s m args below meth c s₁ Bd hml0 hP hK
  obtain ⟨rfl, hZ, hh⟩ := hP
  have hx := Bd.exec
  have hby := Bd.bytes
  have hml : c.maxLocals = 8 := hml0
  have hown : s.vm.findClass "com/example/hueline/hueline/model/Graph" = some m.cls := findClass_of_methodNamed Bd.named
  have hnm := (name_of_methodNamed Bd.named Bd.method).1
  have hlk : meth.locks = false := Bd.notSynchronized
  have X0 : Stand p l e ({ frames := 1, cells := 0, slots := 0, locals := 14 } : Room) s m #[(.ref a1), (.ref a2), (.ref a3), (.ref a4), (.ref a5), (.ref a6)] below meth c s₁ [] 0 0 := Stand.of_body Bd
  have e0 : s₁.heap = h0 := by rw [← hh, Bd.state]; rfl
  have N0 := Fr.nil n0
  refine own_body (Q := fun v h L => v = none ∧ Fr n0 L ∧ Keep h0 h [a1] ∧ Fld Z h a1 "com/example/hueline/hueline/model/Graph" "ids" "[J" (.ref a2) ∧ Fld Z h a1 "com/example/hueline/hueline/model/Graph" "offsets" "[J" (.ref a5) ∧ Fld Z h a1 "com/example/hueline/hueline/model/Graph" "maxDegree" "I" (.int (own_max (own_max (own_max (0 : Int32) ((y1 - y0).toInt32)) ((y2 - y1).toInt32)) ((y3 - y2).toInt32)))) ?_
  generalize hΦ : own_Fin s below _ _ _ = Φ
  refine own_cast (ef_5_RRRRRR m a1 a2 a3 a4 a5 a6) ?_
  have K0 := Keep.refl h0 [a1]
  show own_Run p e below Φ (s₁.setTop (mkF m 0 #[.val (.ref a1), .val (.ref a2), .val (.ref a3), .val (.ref a4), .val (.ref a5), .val (.ref a6), .unset, .unset] []))
  refine own_go (fun t k => XS.aloadN X0.here hx rfl (hb hby d5_0) rfl rfl  k) ?_
  obtain ⟨T1, X1, e1, st1⟩ := initO X0 hx hZ hown (hw _ (List.mem_of_getElem? (i := 44) rfl)) (hw _ (List.mem_of_getElem? (i := 16) rfl)) (hw _ (List.mem_of_getElem? (i := 17) rfl)) e0 (g := (mkF m 1 #[.val (.ref a1), .val (.ref a2), .val (.ref a3), .val (.ref a4), .val (.ref a5), .val (.ref a6), .unset, .unset] [(.ref a1)])) rfl (by rw [hml]; rfl) rfl (hb hby d5_1) (by decide) (W := 0) (by show 2 * 0 + _ ≤ _; exact Nat.le_of_eq rfl) (by decide)
  refine own_go st1 ?_
  refine own_go (fun t k => XS.aloadN X1.here hx rfl (hb hby d5_4) rfl rfl  k) ?_
  refine own_go (fun t k => XS.aloadN X1.here hx rfl (hb hby d5_5) rfl rfl  k) ?_
  obtain ⟨T2, h2, X2, e2, W2, st2⟩ := putF X1 hx hZ hown (host := "") (Or.inl (hw _ (List.mem_of_getElem? (i := 45) rfl))) Via.refl e1 H2 H1 (Or.inr ⟨(hw _ (List.mem_of_getElem? (i := 46) rfl)), rfl, hnm⟩) (hw _ (List.mem_of_getElem? (i := 39) rfl)) (ty := (.array .long)) (by decide) rfl rfl (g := (mkF m 6 #[.val (.ref a1), .val (.ref a2), .val (.ref a3), .val (.ref a4), .val (.ref a5), .val (.ref a6), .unset, .unset] [(.ref a2), (.ref a1)])) rfl rfl (hb hby d5_6)
  refine own_go st2 ?_
  have G2 : Fld Z h2 a1 "com/example/hueline/hueline/model/Graph" "ids" "[J" (.ref a2) := H2.same W2
  have N2 := Fr.snoc X2 N0 H8
  show own_Run p e below Φ (T2.setTop (mkF m 9 #[.val (.ref a1), .val (.ref a2), .val (.ref a3), .val (.ref a4), .val (.ref a5), .val (.ref a6), .unset, .unset] []))
  refine own_go (fun t k => XS.aloadN X2.here hx rfl (hb hby d5_9) rfl rfl  k) ?_
  refine own_go (fun t k => XS.aloadN X2.here hx rfl (hb hby d5_10) rfl rfl  k) ?_
  have F3 : Fld Z h2 a1 "com/example/hueline/hueline/model/Graph" "sources" "Lcom/example/hueline/hueline/model/BigIntArray;" .null := (H3.other W2 (Or.inr (slot_ne (Or.inr (hw _ (List.mem_of_getElem? (i := 48) rfl))) (Or.inr (hw _ (List.mem_of_getElem? (i := 46) rfl))) (by decide) (t := (.object "com/example/hueline/hueline/model/BigIntArray")) (t' := (.array .long)) (by decide) (by decide))))
  have F4 : Exa Z h2 a1 "com/example/hueline/hueline/model/Graph" := (H1.wr W2)
  obtain ⟨T5, h5, X5, e5, W5, st5⟩ := putF X2 hx hZ hown (host := "") (Or.inl (hw _ (List.mem_of_getElem? (i := 47) rfl))) Via.refl e2 F3 F4 (Or.inr ⟨(hw _ (List.mem_of_getElem? (i := 48) rfl)), rfl, hnm⟩) (hw _ (List.mem_of_getElem? (i := 39) rfl)) (ty := (.object "com/example/hueline/hueline/model/BigIntArray")) (by decide) rfl rfl (g := (mkF m 11 #[.val (.ref a1), .val (.ref a2), .val (.ref a3), .val (.ref a4), .val (.ref a5), .val (.ref a6), .unset, .unset] [(.ref a3), (.ref a1)])) rfl rfl (hb hby d5_11)
  refine own_go st5 ?_
  have G5 : Fld Z h5 a1 "com/example/hueline/hueline/model/Graph" "sources" "Lcom/example/hueline/hueline/model/BigIntArray;" (.ref a3) := F3.same W5
  have N5 := Fr.snoc X5 N2 H8
  refine own_go (fun t k => XS.aloadN X5.here hx rfl (hb hby d5_14) rfl rfl  k) ?_
  refine own_go (fun t k => XS.aloadN X5.here hx rfl (hb hby d5_15) rfl rfl  k) ?_
  show own_Run p e below Φ (T5.setTop (mkF m 16 #[.val (.ref a1), .val (.ref a2), .val (.ref a3), .val (.ref a4), .val (.ref a5), .val (.ref a6), .unset, .unset] [(.ref a4), (.ref a1)]))
  have F6 : Fld Z h5 a1 "com/example/hueline/hueline/model/Graph" "targets" "Lcom/example/hueline/hueline/model/BigIntArray;" .null := ((H4.other W2 (Or.inr (slot_ne (Or.inr (hw _ (List.mem_of_getElem? (i := 50) rfl))) (Or.inr (hw _ (List.mem_of_getElem? (i := 46) rfl))) (by decide) (t := (.object "com/example/hueline/hueline/model/BigIntArray")) (t' := (.array .long)) (by decide) (by decide)))).other W5 (Or.inr (slot_ne (Or.inr (hw _ (List.mem_of_getElem? (i := 50) rfl))) (Or.inr (hw _ (List.mem_of_getElem? (i := 48) rfl))) (by decide) (t := (.object "com/example/hueline/hueline/model/BigIntArray")) (t' := (.object "com/example/hueline/hueline/model/BigIntArray")) (by decide) (by decide))))
  have F7 : Exa Z h5 a1 "com/example/hueline/hueline/model/Graph" := (F4.wr W5)
  obtain ⟨T8, h8, X8, e8, W8, st8⟩ := putF X5 hx hZ hown (host := "") (Or.inl (hw _ (List.mem_of_getElem? (i := 49) rfl))) Via.refl e5 F6 F7 (Or.inr ⟨(hw _ (List.mem_of_getElem? (i := 50) rfl)), rfl, hnm⟩) (hw _ (List.mem_of_getElem? (i := 39) rfl)) (ty := (.object "com/example/hueline/hueline/model/BigIntArray")) (by decide) rfl rfl (g := (mkF m 16 #[.val (.ref a1), .val (.ref a2), .val (.ref a3), .val (.ref a4), .val (.ref a5), .val (.ref a6), .unset, .unset] [(.ref a4), (.ref a1)])) rfl rfl (hb hby d5_16)
  refine own_go st8 ?_
  have G8 : Fld Z h8 a1 "com/example/hueline/hueline/model/Graph" "targets" "Lcom/example/hueline/hueline/model/BigIntArray;" (.ref a4) := F6.same W8
  have N8 := Fr.snoc X8 N5 H8
  refine own_go (fun t k => XS.aloadN X8.here hx rfl (hb hby d5_19) rfl rfl  k) ?_
  refine own_go (fun t k => XS.aload X8.here hx rfl (hb hby d5_20) rfl rfl  k) ?_
  have F9 : Fld Z h8 a1 "com/example/hueline/hueline/model/Graph" "offsets" "[J" .null := (((H5.other W2 (Or.inr (slot_ne (Or.inr (hw _ (List.mem_of_getElem? (i := 52) rfl))) (Or.inr (hw _ (List.mem_of_getElem? (i := 46) rfl))) (by decide) (t := (.array .long)) (t' := (.array .long)) (by decide) (by decide)))).other W5 (Or.inr (slot_ne (Or.inr (hw _ (List.mem_of_getElem? (i := 52) rfl))) (Or.inr (hw _ (List.mem_of_getElem? (i := 48) rfl))) (by decide) (t := (.array .long)) (t' := (.object "com/example/hueline/hueline/model/BigIntArray")) (by decide) (by decide)))).other W8 (Or.inr (slot_ne (Or.inr (hw _ (List.mem_of_getElem? (i := 52) rfl))) (Or.inr (hw _ (List.mem_of_getElem? (i := 50) rfl))) (by decide) (t := (.array .long)) (t' := (.object "com/example/hueline/hueline/model/BigIntArray")) (by decide) (by decide))))
  have F10 : Exa Z h8 a1 "com/example/hueline/hueline/model/Graph" := (F7.wr W8)
  obtain ⟨T11, h11, X11, e11, W11, st11⟩ := putF X8 hx hZ hown (host := "") (Or.inl (hw _ (List.mem_of_getElem? (i := 51) rfl))) Via.refl e8 F9 F10 (Or.inr ⟨(hw _ (List.mem_of_getElem? (i := 52) rfl)), rfl, hnm⟩) (hw _ (List.mem_of_getElem? (i := 39) rfl)) (ty := (.array .long)) (by decide) rfl rfl (g := (mkF m 22 #[.val (.ref a1), .val (.ref a2), .val (.ref a3), .val (.ref a4), .val (.ref a5), .val (.ref a6), .unset, .unset] [(.ref a5), (.ref a1)])) rfl rfl (hb hby d5_22)
  refine own_go st11 ?_
  have G11 : Fld Z h11 a1 "com/example/hueline/hueline/model/Graph" "offsets" "[J" (.ref a5) := F9.same W11
  have N11 := Fr.snoc X11 N8 H8
  refine own_go (fun t k => XS.aloadN X11.here hx rfl (hb hby d5_25) rfl rfl  k) ?_
  show own_Run p e below Φ (T11.setTop (mkF m 26 #[.val (.ref a1), .val (.ref a2), .val (.ref a3), .val (.ref a4), .val (.ref a5), .val (.ref a6), .unset, .unset] [(.ref a1)]))
  refine own_go (fun t k => XS.aload X11.here hx rfl (hb hby d5_26) rfl rfl  k) ?_
  have F12 : Fld Z h11 a1 "com/example/hueline/hueline/model/Graph" "incidences" "Lcom/example/hueline/hueline/model/BigIntArray;" .null := ((((H6.other W2 (Or.inr (slot_ne (Or.inr (hw _ (List.mem_of_getElem? (i := 54) rfl))) (Or.inr (hw _ (List.mem_of_getElem? (i := 46) rfl))) (by decide) (t := (.object "com/example/hueline/hueline/model/BigIntArray")) (t' := (.array .long)) (by decide) (by decide)))).other W5 (Or.inr (slot_ne (Or.inr (hw _ (List.mem_of_getElem? (i := 54) rfl))) (Or.inr (hw _ (List.mem_of_getElem? (i := 48) rfl))) (by decide) (t := (.object "com/example/hueline/hueline/model/BigIntArray")) (t' := (.object "com/example/hueline/hueline/model/BigIntArray")) (by decide) (by decide)))).other W8 (Or.inr (slot_ne (Or.inr (hw _ (List.mem_of_getElem? (i := 54) rfl))) (Or.inr (hw _ (List.mem_of_getElem? (i := 50) rfl))) (by decide) (t := (.object "com/example/hueline/hueline/model/BigIntArray")) (t' := (.object "com/example/hueline/hueline/model/BigIntArray")) (by decide) (by decide)))).other W11 (Or.inr (slot_ne (Or.inr (hw _ (List.mem_of_getElem? (i := 54) rfl))) (Or.inr (hw _ (List.mem_of_getElem? (i := 52) rfl))) (by decide) (t := (.object "com/example/hueline/hueline/model/BigIntArray")) (t' := (.array .long)) (by decide) (by decide))))
  have F13 : Exa Z h11 a1 "com/example/hueline/hueline/model/Graph" := (F10.wr W11)
  obtain ⟨T14, h14, X14, e14, W14, st14⟩ := putF X11 hx hZ hown (host := "") (Or.inl (hw _ (List.mem_of_getElem? (i := 53) rfl))) Via.refl e11 F12 F13 (Or.inr ⟨(hw _ (List.mem_of_getElem? (i := 54) rfl)), rfl, hnm⟩) (hw _ (List.mem_of_getElem? (i := 39) rfl)) (ty := (.object "com/example/hueline/hueline/model/BigIntArray")) (by decide) rfl rfl (g := (mkF m 28 #[.val (.ref a1), .val (.ref a2), .val (.ref a3), .val (.ref a4), .val (.ref a5), .val (.ref a6), .unset, .unset] [(.ref a6), (.ref a1)])) rfl rfl (hb hby d5_28)
  refine own_go st14 ?_
  have G14 : Fld Z h14 a1 "com/example/hueline/hueline/model/Graph" "incidences" "Lcom/example/hueline/hueline/model/BigIntArray;" (.ref a6) := F12.same W14
  have N14 := Fr.snoc X14 N11 H8
  refine own_go (fun t k => XS.iconst X14.here hx rfl (hb hby d5_31) k) ?_
  refine own_go (fun t k => XS.istore X14.here hx rfl (hb hby d5_32) rfl (l' := #[.val (.ref a1), .val (.ref a2), .val (.ref a3), .val (.ref a4), .val (.ref a5), .val (.ref a6), .val (.int (0 : Int32)), .unset]) rfl k) ?_
  refine own_go (fun t k => XS.iconst X14.here hx rfl (hb hby d5_34) k) ?_
  show own_Run p e below Φ (T14.setTop (mkF m 35 #[.val (.ref a1), .val (.ref a2), .val (.ref a3), .val (.ref a4), .val (.ref a5), .val (.ref a6), .val (.int (0 : Int32)), .unset] [(.int (0 : Int32))]))
  refine own_go (fun t k => XS.istore X14.here hx rfl (hb hby d5_35) rfl (l' := #[.val (.ref a1), .val (.ref a2), .val (.ref a3), .val (.ref a4), .val (.ref a5), .val (.ref a6), .val (.int (0 : Int32)), .val (.int (0 : Int32))]) rfl k) ?_
  refine own_go (fun t k => XS.iload X14.here hx rfl (hb hby d5_37) rfl  k) ?_
  refine own_go (fun t k => XS.aloadN X14.here hx rfl (hb hby d5_39) rfl rfl  k) ?_
  have F15 : Arv Z h14 a2 k2 .long (3 : Int32) [v0, v1, v2] (.long (0 : Int64)) := (((((H9.other W2 H11).other W5 H11).other W8 H11).other W11 H11).other W14 H11)
  refine own_arrlen X14 hx hZ e14 F15 (g := (mkF m 40 #[.val (.ref a1), .val (.ref a2), .val (.ref a3), .val (.ref a4), .val (.ref a5), .val (.ref a6), .val (.int (0 : Int32)), .val (.int (0 : Int32))] [(.ref a2), (.int (0 : Int32))])) rfl rfl (hb hby d5_40) ?_
  refine own_go (fun t k => XS.icmpNo X14.here hx rfl (hb hby d5_41) rfl (tlt (by decide : (0 : Int32) < (3 : Int32))).2.1 k) ?_
  show own_Run p e below Φ (T14.setTop (mkF m 44 #[.val (.ref a1), .val (.ref a2), .val (.ref a3), .val (.ref a4), .val (.ref a5), .val (.ref a6), .val (.int (0 : Int32)), .val (.int (0 : Int32))] []))
  refine own_go (fun t k => XS.iload X14.here hx rfl (hb hby d5_44) rfl  k) ?_
  refine own_go (fun t k => XS.aloadN X14.here hx rfl (hb hby d5_46) rfl rfl  k) ?_
  refine own_go (fun t k => XS.iload X14.here hx rfl (hb hby d5_47) rfl  k) ?_
  have F16 : Fld Z h14 a1 "com/example/hueline/hueline/model/Graph" "offsets" "[J" (.ref a5) := (G11.other W14 (Or.inr (slot_ne (Or.inr (hw _ (List.mem_of_getElem? (i := 52) rfl))) (Or.inr (hw _ (List.mem_of_getElem? (i := 54) rfl))) (by decide) (t := (.array .long)) (t' := (.object "com/example/hueline/hueline/model/BigIntArray")) (by decide) (by decide))))
  have F17 : Arv Z h14 a5 k5 .long (4 : Int32) [(.long y0), (.long y1), (.long y2), (.long y3)] (.long (0 : Int64)) := (((((H10.other W2 H12).other W5 H12).other W8 H12).other W11 H12).other W14 H12)
  have F19 : Exa Z h14 a1 "com/example/hueline/hueline/model/Graph" := (F13.wr W14)
  refine own_callV X14 hx hZ (y := (⟨"com/example/hueline/hueline/model/Graph", "degree", "(I)I"⟩ : MethodName)) (z := (⟨"com/example/hueline/hueline/model/Graph", "degree", "(I)I"⟩ : MethodName)) (W := 1) (a := a1) (argsL := [(.int (0 : Int32))]) (rest := [(.int (0 : Int32))]) hown (hw _ (List.mem_of_getElem? (i := 55) rfl)) (hw _ (List.mem_of_getElem? (i := 56) rfl)) (notFace_of_selects (args := #[]) (mvT hZ (hw _ (List.mem_of_getElem? (i := 58) rfl)))) (hw _ (List.mem_of_getElem? (i := 58) rfl)) (hw _ (List.mem_of_getElem? (i := 57) rfl)) (by decide) (own_bk (rm_dg0 l Z a0 hw a1 a5 k5 y0 y1 y2 y3 h14 n0 F16 F17) hZ (hw _ (List.mem_of_getElem? (i := 59) rfl)) (hw _ (List.mem_of_getElem? (i := 40) rfl)) (by decide) (by decide)) e14 F19 (g := (mkF m 49 #[.val (.ref a1), .val (.ref a2), .val (.ref a3), .val (.ref a4), .val (.ref a5), .val (.ref a6), .val (.int (0 : Int32)), .val (.int (0 : Int32))] [(.int (0 : Int32)), (.ref a1), (.int (0 : Int32))])) rfl (by rw [hml]; rfl) (lenOf pd_5 rfl) rfl (by show 2 * 0 + _ ≤ _; exact Nat.le_of_eq rfl) (hb hby d5_49) (by decide) (by decide) (fun v18 T18 h18 L18 X18 e18 q18 => ?_)
  obtain ⟨rfl, M18, s18⟩ := q18
  replace e18 : T18.heap = h14 := e18.trans s18
  have N18 := Fr.app N14 M18
  refine own_callS X18 hx hZ (y := (⟨"java/lang/Math", "max", "(II)I"⟩ : MethodName)) (W := 0) (argsL := [(.int (0 : Int32)), (.int ((y1 - y0).toInt32))]) (rest := []) hown (hw _ (List.mem_of_getElem? (i := 60) rfl)) (hw _ (List.mem_of_getElem? (i := 61) rfl)) (hw _ (List.mem_of_getElem? (i := 62) rfl)) (hw _ (List.mem_of_getElem? (i := 63) rfl)) (by decide) (own_bk (rm_max l Z a0 hw (0 : Int32) ((y1 - y0).toInt32) h14 n0 ) hZ (hw _ (List.mem_of_getElem? (i := 63) rfl)) (hw _ (List.mem_of_getElem? (i := 62) rfl)) (by decide) (by decide)) e18 (g := (mkF m 52 #[.val (.ref a1), .val (.ref a2), .val (.ref a3), .val (.ref a4), .val (.ref a5), .val (.ref a6), .val (.int (0 : Int32)), .val (.int (0 : Int32))] [(.int ((y1 - y0).toInt32)), (.int (0 : Int32))])) rfl (by rw [hml]; rfl) (lenOf pd_6 rfl) rfl (by show 2 * 0 + _ ≤ _; exact Nat.le_of_eq rfl) (hb hby d5_52) (by decide) (by decide) (fun v20 T20 h20 L20 X20 e20 q20 => ?_)
  obtain ⟨rfl, M20, s20⟩ := q20
  replace e20 : T20.heap = h14 := e20.trans s20
  have N20 := Fr.app N18 M20
  show own_Run p e below Φ (T20.setTop (mkF m 55 #[.val (.ref a1), .val (.ref a2), .val (.ref a3), .val (.ref a4), .val (.ref a5), .val (.ref a6), .val (.int (0 : Int32)), .val (.int (0 : Int32))] [(.int (own_max (0 : Int32) ((y1 - y0).toInt32)))]))
  refine own_go (fun t k => XS.istore X20.here hx rfl (hb hby d5_55) rfl (l' := #[.val (.ref a1), .val (.ref a2), .val (.ref a3), .val (.ref a4), .val (.ref a5), .val (.ref a6), .val (.int (own_max (0 : Int32) ((y1 - y0).toInt32))), .val (.int (0 : Int32))]) rfl k) ?_
  refine own_go (fun t k => XS.iinc X20.here hx rfl (hb hby d5_57) rfl (l' := #[.val (.ref a1), .val (.ref a2), .val (.ref a3), .val (.ref a4), .val (.ref a5), .val (.ref a6), .val (.int (own_max (0 : Int32) ((y1 - y0).toInt32))), .val (.int ((0 : Int32) + (1 : Int32)))]) rfl k) ?_
  show own_Run p e below Φ (T20.setTop (mkF m 60 #[.val (.ref a1), .val (.ref a2), .val (.ref a3), .val (.ref a4), .val (.ref a5), .val (.ref a6), .val (.int (own_max (0 : Int32) ((y1 - y0).toInt32))), .val (.int ((0 : Int32) + (1 : Int32)))] []))
  rw [show ((0 : Int32) + (1 : Int32)) = (1 : Int32) from by decide]
  show own_Run p e below Φ (T20.setTop (mkF m 60 #[.val (.ref a1), .val (.ref a2), .val (.ref a3), .val (.ref a4), .val (.ref a5), .val (.ref a6), .val (.int (own_max (0 : Int32) ((y1 - y0).toInt32))), .val (.int (1 : Int32))] []))
  refine own_go (fun t k => XS.goto X20.here hx rfl (pc0 := 60) (pc' := 37) rfl (hb hby d5_60) (by decide) (by decide) k) ?_
  refine own_go (fun t k => XS.iload X20.here hx rfl (hb hby d5_37) rfl  k) ?_
  refine own_go (fun t k => XS.aloadN X20.here hx rfl (hb hby d5_39) rfl rfl  k) ?_
  refine own_arrlen X20 hx hZ e20 F15 (g := (mkF m 40 #[.val (.ref a1), .val (.ref a2), .val (.ref a3), .val (.ref a4), .val (.ref a5), .val (.ref a6), .val (.int (own_max (0 : Int32) ((y1 - y0).toInt32))), .val (.int (1 : Int32))] [(.ref a2), (.int (1 : Int32))])) rfl rfl (hb hby d5_40) ?_
  refine own_go (fun t k => XS.icmpNo X20.here hx rfl (hb hby d5_41) rfl (tlt (by decide : (1 : Int32) < (3 : Int32))).2.1 k) ?_
  show own_Run p e below Φ (T20.setTop (mkF m 44 #[.val (.ref a1), .val (.ref a2), .val (.ref a3), .val (.ref a4), .val (.ref a5), .val (.ref a6), .val (.int (own_max (0 : Int32) ((y1 - y0).toInt32))), .val (.int (1 : Int32))] []))
  refine own_go (fun t k => XS.iload X20.here hx rfl (hb hby d5_44) rfl  k) ?_
  refine own_go (fun t k => XS.aloadN X20.here hx rfl (hb hby d5_46) rfl rfl  k) ?_
  refine own_go (fun t k => XS.iload X20.here hx rfl (hb hby d5_47) rfl  k) ?_
  refine own_callV X20 hx hZ (y := (⟨"com/example/hueline/hueline/model/Graph", "degree", "(I)I"⟩ : MethodName)) (z := (⟨"com/example/hueline/hueline/model/Graph", "degree", "(I)I"⟩ : MethodName)) (W := 1) (a := a1) (argsL := [(.int (1 : Int32))]) (rest := [(.int (own_max (0 : Int32) ((y1 - y0).toInt32)))]) hown (hw _ (List.mem_of_getElem? (i := 55) rfl)) (hw _ (List.mem_of_getElem? (i := 56) rfl)) (notFace_of_selects (args := #[]) (mvT hZ (hw _ (List.mem_of_getElem? (i := 58) rfl)))) (hw _ (List.mem_of_getElem? (i := 58) rfl)) (hw _ (List.mem_of_getElem? (i := 57) rfl)) (by decide) (own_bk (rm_dg1 l Z a0 hw a1 a5 k5 y0 y1 y2 y3 h14 n0 F16 F17) hZ (hw _ (List.mem_of_getElem? (i := 59) rfl)) (hw _ (List.mem_of_getElem? (i := 40) rfl)) (by decide) (by decide)) e20 F19 (g := (mkF m 49 #[.val (.ref a1), .val (.ref a2), .val (.ref a3), .val (.ref a4), .val (.ref a5), .val (.ref a6), .val (.int (own_max (0 : Int32) ((y1 - y0).toInt32))), .val (.int (1 : Int32))] [(.int (1 : Int32)), (.ref a1), (.int (own_max (0 : Int32) ((y1 - y0).toInt32)))])) rfl (by rw [hml]; rfl) (lenOf pd_5 rfl) rfl (by show 2 * 0 + _ ≤ _; exact Nat.le_of_eq rfl) (hb hby d5_49) (by decide) (by decide) (fun v21 T21 h21 L21 X21 e21 q21 => ?_)
  obtain ⟨rfl, M21, s21⟩ := q21
  replace e21 : T21.heap = h14 := e21.trans s21
  have N21 := Fr.app N20 M21
  refine own_callS X21 hx hZ (y := (⟨"java/lang/Math", "max", "(II)I"⟩ : MethodName)) (W := 0) (argsL := [(.int (own_max (0 : Int32) ((y1 - y0).toInt32))), (.int ((y2 - y1).toInt32))]) (rest := []) hown (hw _ (List.mem_of_getElem? (i := 60) rfl)) (hw _ (List.mem_of_getElem? (i := 61) rfl)) (hw _ (List.mem_of_getElem? (i := 62) rfl)) (hw _ (List.mem_of_getElem? (i := 63) rfl)) (by decide) (own_bk (rm_max l Z a0 hw (own_max (0 : Int32) ((y1 - y0).toInt32)) ((y2 - y1).toInt32) h14 n0 ) hZ (hw _ (List.mem_of_getElem? (i := 63) rfl)) (hw _ (List.mem_of_getElem? (i := 62) rfl)) (by decide) (by decide)) e21 (g := (mkF m 52 #[.val (.ref a1), .val (.ref a2), .val (.ref a3), .val (.ref a4), .val (.ref a5), .val (.ref a6), .val (.int (own_max (0 : Int32) ((y1 - y0).toInt32))), .val (.int (1 : Int32))] [(.int ((y2 - y1).toInt32)), (.int (own_max (0 : Int32) ((y1 - y0).toInt32)))])) rfl (by rw [hml]; rfl) (lenOf pd_6 rfl) rfl (by show 2 * 0 + _ ≤ _; exact Nat.le_of_eq rfl) (hb hby d5_52) (by decide) (by decide) (fun v22 T22 h22 L22 X22 e22 q22 => ?_)
  obtain ⟨rfl, M22, s22⟩ := q22
  replace e22 : T22.heap = h14 := e22.trans s22
  have N22 := Fr.app N21 M22
  show own_Run p e below Φ (T22.setTop (mkF m 55 #[.val (.ref a1), .val (.ref a2), .val (.ref a3), .val (.ref a4), .val (.ref a5), .val (.ref a6), .val (.int (own_max (0 : Int32) ((y1 - y0).toInt32))), .val (.int (1 : Int32))] [(.int (own_max (own_max (0 : Int32) ((y1 - y0).toInt32)) ((y2 - y1).toInt32)))]))
  refine own_go (fun t k => XS.istore X22.here hx rfl (hb hby d5_55) rfl (l' := #[.val (.ref a1), .val (.ref a2), .val (.ref a3), .val (.ref a4), .val (.ref a5), .val (.ref a6), .val (.int (own_max (own_max (0 : Int32) ((y1 - y0).toInt32)) ((y2 - y1).toInt32))), .val (.int (1 : Int32))]) rfl k) ?_
  refine own_go (fun t k => XS.iinc X22.here hx rfl (hb hby d5_57) rfl (l' := #[.val (.ref a1), .val (.ref a2), .val (.ref a3), .val (.ref a4), .val (.ref a5), .val (.ref a6), .val (.int (own_max (own_max (0 : Int32) ((y1 - y0).toInt32)) ((y2 - y1).toInt32))), .val (.int ((1 : Int32) + (1 : Int32)))]) rfl k) ?_
  show own_Run p e below Φ (T22.setTop (mkF m 60 #[.val (.ref a1), .val (.ref a2), .val (.ref a3), .val (.ref a4), .val (.ref a5), .val (.ref a6), .val (.int (own_max (own_max (0 : Int32) ((y1 - y0).toInt32)) ((y2 - y1).toInt32))), .val (.int ((1 : Int32) + (1 : Int32)))] []))
  rw [show ((1 : Int32) + (1 : Int32)) = (2 : Int32) from by decide]
  show own_Run p e below Φ (T22.setTop (mkF m 60 #[.val (.ref a1), .val (.ref a2), .val (.ref a3), .val (.ref a4), .val (.ref a5), .val (.ref a6), .val (.int (own_max (own_max (0 : Int32) ((y1 - y0).toInt32)) ((y2 - y1).toInt32))), .val (.int (2 : Int32))] []))
  refine own_go (fun t k => XS.goto X22.here hx rfl (pc0 := 60) (pc' := 37) rfl (hb hby d5_60) (by decide) (by decide) k) ?_
  refine own_go (fun t k => XS.iload X22.here hx rfl (hb hby d5_37) rfl  k) ?_
  refine own_go (fun t k => XS.aloadN X22.here hx rfl (hb hby d5_39) rfl rfl  k) ?_
  refine own_arrlen X22 hx hZ e22 F15 (g := (mkF m 40 #[.val (.ref a1), .val (.ref a2), .val (.ref a3), .val (.ref a4), .val (.ref a5), .val (.ref a6), .val (.int (own_max (own_max (0 : Int32) ((y1 - y0).toInt32)) ((y2 - y1).toInt32))), .val (.int (2 : Int32))] [(.ref a2), (.int (2 : Int32))])) rfl rfl (hb hby d5_40) ?_
  refine own_go (fun t k => XS.icmpNo X22.here hx rfl (hb hby d5_41) rfl (tlt (by decide : (2 : Int32) < (3 : Int32))).2.1 k) ?_
  show own_Run p e below Φ (T22.setTop (mkF m 44 #[.val (.ref a1), .val (.ref a2), .val (.ref a3), .val (.ref a4), .val (.ref a5), .val (.ref a6), .val (.int (own_max (own_max (0 : Int32) ((y1 - y0).toInt32)) ((y2 - y1).toInt32))), .val (.int (2 : Int32))] []))
  refine own_go (fun t k => XS.iload X22.here hx rfl (hb hby d5_44) rfl  k) ?_
  refine own_go (fun t k => XS.aloadN X22.here hx rfl (hb hby d5_46) rfl rfl  k) ?_
  refine own_go (fun t k => XS.iload X22.here hx rfl (hb hby d5_47) rfl  k) ?_
  refine own_callV X22 hx hZ (y := (⟨"com/example/hueline/hueline/model/Graph", "degree", "(I)I"⟩ : MethodName)) (z := (⟨"com/example/hueline/hueline/model/Graph", "degree", "(I)I"⟩ : MethodName)) (W := 1) (a := a1) (argsL := [(.int (2 : Int32))]) (rest := [(.int (own_max (own_max (0 : Int32) ((y1 - y0).toInt32)) ((y2 - y1).toInt32)))]) hown (hw _ (List.mem_of_getElem? (i := 55) rfl)) (hw _ (List.mem_of_getElem? (i := 56) rfl)) (notFace_of_selects (args := #[]) (mvT hZ (hw _ (List.mem_of_getElem? (i := 58) rfl)))) (hw _ (List.mem_of_getElem? (i := 58) rfl)) (hw _ (List.mem_of_getElem? (i := 57) rfl)) (by decide) (own_bk (rm_dg2 l Z a0 hw a1 a5 k5 y0 y1 y2 y3 h14 n0 F16 F17) hZ (hw _ (List.mem_of_getElem? (i := 59) rfl)) (hw _ (List.mem_of_getElem? (i := 40) rfl)) (by decide) (by decide)) e22 F19 (g := (mkF m 49 #[.val (.ref a1), .val (.ref a2), .val (.ref a3), .val (.ref a4), .val (.ref a5), .val (.ref a6), .val (.int (own_max (own_max (0 : Int32) ((y1 - y0).toInt32)) ((y2 - y1).toInt32))), .val (.int (2 : Int32))] [(.int (2 : Int32)), (.ref a1), (.int (own_max (own_max (0 : Int32) ((y1 - y0).toInt32)) ((y2 - y1).toInt32)))])) rfl (by rw [hml]; rfl) (lenOf pd_5 rfl) rfl (by show 2 * 0 + _ ≤ _; exact Nat.le_of_eq rfl) (hb hby d5_49) (by decide) (by decide) (fun v23 T23 h23 L23 X23 e23 q23 => ?_)
  obtain ⟨rfl, M23, s23⟩ := q23
  replace e23 : T23.heap = h14 := e23.trans s23
  have N23 := Fr.app N22 M23
  refine own_callS X23 hx hZ (y := (⟨"java/lang/Math", "max", "(II)I"⟩ : MethodName)) (W := 0) (argsL := [(.int (own_max (own_max (0 : Int32) ((y1 - y0).toInt32)) ((y2 - y1).toInt32))), (.int ((y3 - y2).toInt32))]) (rest := []) hown (hw _ (List.mem_of_getElem? (i := 60) rfl)) (hw _ (List.mem_of_getElem? (i := 61) rfl)) (hw _ (List.mem_of_getElem? (i := 62) rfl)) (hw _ (List.mem_of_getElem? (i := 63) rfl)) (by decide) (own_bk (rm_max l Z a0 hw (own_max (own_max (0 : Int32) ((y1 - y0).toInt32)) ((y2 - y1).toInt32)) ((y3 - y2).toInt32) h14 n0 ) hZ (hw _ (List.mem_of_getElem? (i := 63) rfl)) (hw _ (List.mem_of_getElem? (i := 62) rfl)) (by decide) (by decide)) e23 (g := (mkF m 52 #[.val (.ref a1), .val (.ref a2), .val (.ref a3), .val (.ref a4), .val (.ref a5), .val (.ref a6), .val (.int (own_max (own_max (0 : Int32) ((y1 - y0).toInt32)) ((y2 - y1).toInt32))), .val (.int (2 : Int32))] [(.int ((y3 - y2).toInt32)), (.int (own_max (own_max (0 : Int32) ((y1 - y0).toInt32)) ((y2 - y1).toInt32)))])) rfl (by rw [hml]; rfl) (lenOf pd_6 rfl) rfl (by show 2 * 0 + _ ≤ _; exact Nat.le_of_eq rfl) (hb hby d5_52) (by decide) (by decide) (fun v24 T24 h24 L24 X24 e24 q24 => ?_)
  obtain ⟨rfl, M24, s24⟩ := q24
  replace e24 : T24.heap = h14 := e24.trans s24
  have N24 := Fr.app N23 M24
  show own_Run p e below Φ (T24.setTop (mkF m 55 #[.val (.ref a1), .val (.ref a2), .val (.ref a3), .val (.ref a4), .val (.ref a5), .val (.ref a6), .val (.int (own_max (own_max (0 : Int32) ((y1 - y0).toInt32)) ((y2 - y1).toInt32))), .val (.int (2 : Int32))] [(.int (own_max (own_max (own_max (0 : Int32) ((y1 - y0).toInt32)) ((y2 - y1).toInt32)) ((y3 - y2).toInt32)))]))
  refine own_go (fun t k => XS.istore X24.here hx rfl (hb hby d5_55) rfl (l' := #[.val (.ref a1), .val (.ref a2), .val (.ref a3), .val (.ref a4), .val (.ref a5), .val (.ref a6), .val (.int (own_max (own_max (own_max (0 : Int32) ((y1 - y0).toInt32)) ((y2 - y1).toInt32)) ((y3 - y2).toInt32))), .val (.int (2 : Int32))]) rfl k) ?_
  refine own_go (fun t k => XS.iinc X24.here hx rfl (hb hby d5_57) rfl (l' := #[.val (.ref a1), .val (.ref a2), .val (.ref a3), .val (.ref a4), .val (.ref a5), .val (.ref a6), .val (.int (own_max (own_max (own_max (0 : Int32) ((y1 - y0).toInt32)) ((y2 - y1).toInt32)) ((y3 - y2).toInt32))), .val (.int ((2 : Int32) + (1 : Int32)))]) rfl k) ?_
  show own_Run p e below Φ (T24.setTop (mkF m 60 #[.val (.ref a1), .val (.ref a2), .val (.ref a3), .val (.ref a4), .val (.ref a5), .val (.ref a6), .val (.int (own_max (own_max (own_max (0 : Int32) ((y1 - y0).toInt32)) ((y2 - y1).toInt32)) ((y3 - y2).toInt32))), .val (.int ((2 : Int32) + (1 : Int32)))] []))
  rw [show ((2 : Int32) + (1 : Int32)) = (3 : Int32) from by decide]
  show own_Run p e below Φ (T24.setTop (mkF m 60 #[.val (.ref a1), .val (.ref a2), .val (.ref a3), .val (.ref a4), .val (.ref a5), .val (.ref a6), .val (.int (own_max (own_max (own_max (0 : Int32) ((y1 - y0).toInt32)) ((y2 - y1).toInt32)) ((y3 - y2).toInt32))), .val (.int (3 : Int32))] []))
  refine own_go (fun t k => XS.goto X24.here hx rfl (pc0 := 60) (pc' := 37) rfl (hb hby d5_60) (by decide) (by decide) k) ?_
  refine own_go (fun t k => XS.iload X24.here hx rfl (hb hby d5_37) rfl  k) ?_
  refine own_go (fun t k => XS.aloadN X24.here hx rfl (hb hby d5_39) rfl rfl  k) ?_
  refine own_arrlen X24 hx hZ e24 F15 (g := (mkF m 40 #[.val (.ref a1), .val (.ref a2), .val (.ref a3), .val (.ref a4), .val (.ref a5), .val (.ref a6), .val (.int (own_max (own_max (own_max (0 : Int32) ((y1 - y0).toInt32)) ((y2 - y1).toInt32)) ((y3 - y2).toInt32))), .val (.int (3 : Int32))] [(.ref a2), (.int (3 : Int32))])) rfl rfl (hb hby d5_40) ?_
  refine own_go (fun t k => XS.icmpYes X24.here hx rfl (pc0 := 41) (pc' := 63) rfl (hb hby d5_41) rfl (flt (by decide : ¬ ((3 : Int32) < (3 : Int32)))).2.1 (by decide) (by decide) k) ?_
  show own_Run p e below Φ (T24.setTop (mkF m 63 #[.val (.ref a1), .val (.ref a2), .val (.ref a3), .val (.ref a4), .val (.ref a5), .val (.ref a6), .val (.int (own_max (own_max (own_max (0 : Int32) ((y1 - y0).toInt32)) ((y2 - y1).toInt32)) ((y3 - y2).toInt32))), .val (.int (3 : Int32))] []))
  refine own_go (fun t k => XS.aloadN X24.here hx rfl (hb hby d5_63) rfl rfl  k) ?_
  refine own_go (fun t k => XS.iload X24.here hx rfl (hb hby d5_64) rfl  k) ?_
  have F25 : Fld Z h14 a1 "com/example/hueline/hueline/model/Graph" "maxDegree" "I" (.int (0 : Int32)) := (((((H7.other W2 (Or.inr (slot_ne (Or.inr (hw _ (List.mem_of_getElem? (i := 65) rfl))) (Or.inr (hw _ (List.mem_of_getElem? (i := 46) rfl))) (by decide) (t := .int) (t' := (.array .long)) (by decide) (by decide)))).other W5 (Or.inr (slot_ne (Or.inr (hw _ (List.mem_of_getElem? (i := 65) rfl))) (Or.inr (hw _ (List.mem_of_getElem? (i := 48) rfl))) (by decide) (t := .int) (t' := (.object "com/example/hueline/hueline/model/BigIntArray")) (by decide) (by decide)))).other W8 (Or.inr (slot_ne (Or.inr (hw _ (List.mem_of_getElem? (i := 65) rfl))) (Or.inr (hw _ (List.mem_of_getElem? (i := 50) rfl))) (by decide) (t := .int) (t' := (.object "com/example/hueline/hueline/model/BigIntArray")) (by decide) (by decide)))).other W11 (Or.inr (slot_ne (Or.inr (hw _ (List.mem_of_getElem? (i := 65) rfl))) (Or.inr (hw _ (List.mem_of_getElem? (i := 52) rfl))) (by decide) (t := .int) (t' := (.array .long)) (by decide) (by decide)))).other W14 (Or.inr (slot_ne (Or.inr (hw _ (List.mem_of_getElem? (i := 65) rfl))) (Or.inr (hw _ (List.mem_of_getElem? (i := 54) rfl))) (by decide) (t := .int) (t' := (.object "com/example/hueline/hueline/model/BigIntArray")) (by decide) (by decide))))
  obtain ⟨T26, h26, X26, e26, W26, st26⟩ := putF X24 hx hZ hown (host := "") (Or.inl (hw _ (List.mem_of_getElem? (i := 64) rfl))) Via.refl e24 F25 F19 (Or.inr ⟨(hw _ (List.mem_of_getElem? (i := 65) rfl)), rfl, hnm⟩) (hw _ (List.mem_of_getElem? (i := 39) rfl)) (ty := .int) (by decide) rfl rfl (g := (mkF m 66 #[.val (.ref a1), .val (.ref a2), .val (.ref a3), .val (.ref a4), .val (.ref a5), .val (.ref a6), .val (.int (own_max (own_max (own_max (0 : Int32) ((y1 - y0).toInt32)) ((y2 - y1).toInt32)) ((y3 - y2).toInt32))), .val (.int (3 : Int32))] [(.int (own_max (own_max (own_max (0 : Int32) ((y1 - y0).toInt32)) ((y2 - y1).toInt32)) ((y3 - y2).toInt32))), (.ref a1)])) rfl rfl (hb hby d5_66)
  refine own_go st26 ?_
  have G26 : Fld Z h26 a1 "com/example/hueline/hueline/model/Graph" "maxDegree" "I" (.int (own_max (own_max (own_max (0 : Int32) ((y1 - y0).toInt32)) ((y2 - y1).toInt32)) ((y3 - y2).toInt32))) := F25.same W26
  have N26 := Fr.snoc X26 N24 H8
  have F27 : Keep h0 h26 [a1] := ((((((K0.wr W2 (Or.inl (List.mem_of_getElem? (i := 0) rfl))).wr W5 (Or.inl (List.mem_of_getElem? (i := 0) rfl))).wr W8 (Or.inl (List.mem_of_getElem? (i := 0) rfl))).wr W11 (Or.inl (List.mem_of_getElem? (i := 0) rfl))).wr W14 (Or.inl (List.mem_of_getElem? (i := 0) rfl))).wr W26 (Or.inl (List.mem_of_getElem? (i := 0) rfl)))
  have F28 : Fld Z h26 a1 "com/example/hueline/hueline/model/Graph" "ids" "[J" (.ref a2) := (((((G2.other W5 (Or.inr (slot_ne (Or.inr (hw _ (List.mem_of_getElem? (i := 46) rfl))) (Or.inr (hw _ (List.mem_of_getElem? (i := 48) rfl))) (by decide) (t := (.array .long)) (t' := (.object "com/example/hueline/hueline/model/BigIntArray")) (by decide) (by decide)))).other W8 (Or.inr (slot_ne (Or.inr (hw _ (List.mem_of_getElem? (i := 46) rfl))) (Or.inr (hw _ (List.mem_of_getElem? (i := 50) rfl))) (by decide) (t := (.array .long)) (t' := (.object "com/example/hueline/hueline/model/BigIntArray")) (by decide) (by decide)))).other W11 (Or.inr (slot_ne (Or.inr (hw _ (List.mem_of_getElem? (i := 46) rfl))) (Or.inr (hw _ (List.mem_of_getElem? (i := 52) rfl))) (by decide) (t := (.array .long)) (t' := (.array .long)) (by decide) (by decide)))).other W14 (Or.inr (slot_ne (Or.inr (hw _ (List.mem_of_getElem? (i := 46) rfl))) (Or.inr (hw _ (List.mem_of_getElem? (i := 54) rfl))) (by decide) (t := (.array .long)) (t' := (.object "com/example/hueline/hueline/model/BigIntArray")) (by decide) (by decide)))).other W26 (Or.inr (slot_ne (Or.inr (hw _ (List.mem_of_getElem? (i := 46) rfl))) (Or.inr (hw _ (List.mem_of_getElem? (i := 65) rfl))) (by decide) (t := (.array .long)) (t' := .int) (by decide) (by decide))))
  have F29 : Fld Z h26 a1 "com/example/hueline/hueline/model/Graph" "offsets" "[J" (.ref a5) := (F16.other W26 (Or.inr (slot_ne (Or.inr (hw _ (List.mem_of_getElem? (i := 52) rfl))) (Or.inr (hw _ (List.mem_of_getElem? (i := 65) rfl))) (by decide) (t := (.array .long)) (t' := .int) (by decide) (by decide))))
  subst hΦ
  exact own_retV X26 hx Bd.returns hlk (hb hby d5_69) e26 ⟨rfl, N26, F27, F28, F29, G26⟩ (by decide) (by decide)
theorem d8_0 : decode prog_41_method_2_code 0 = .ok (.aload_n 0, 1) := by decide +kernel
theorem d8_1 : decode prog_41_method_2_code 1 = .ok (.getfield 7, 3) := by decide +kernel
theorem d8_4 : decode prog_41_method_2_code 4 = .ok (.arraylength, 1) := by decide +kernel
theorem d8_5 : decode prog_41_method_2_code 5 = .ok (.ireturn, 1) := by decide +kernel
theorem ef_8_R (m : MethodId) (x0 : Addr) : entryFrame m #[(.ref x0)] 1 = mkF m 0 #[.val (.ref x0)] [] := by first | (simp [entryFrame, mkF, argsToLocals, Value.category]; done) | rfl
set_option maxRecDepth 65536 in
set_option maxHeartbeats 40000000 in
theorem rm_vc (l : Launch) (Z : State) (a0 : Array Value) (hw : ∀ d ∈ tables_1, d.before a0 Z = true) (a1 : Addr) (a2 : Addr) (k2 : ClassId) (n2 : Int32) (us : List Value) (dv : Value) (h0 : Heap) (n0 : Nat) (H1 : Fld Z h0 a1 "com/example/hueline/hueline/model/Graph" "ids" "[J" (.ref a2)) (H2 : Arv Z h0 a2 k2 .long n2 us dv) :
    own_Met l Z (⟨"com/example/hueline/hueline/model/Graph", "vertexCount", "()I"⟩ : MethodName) prog_41_method_2_code 1 (some .int) ({ frames := 0, cells := 0, slots := 0, locals := 0 } : Room) #[(.ref a1)] h0 (fun v h L => v = some (.int n2) ∧ Fr n0 L ∧ h = h0) := by
  intro ws
  refine MetFree.of_bodySF (plainFor_of_name pn_c4) hisR ?_
  intro p e s m args below meth c s₁ Bd hml0 hP hK
  obtain ⟨rfl, hZ, hh⟩ := hP
  have hx := Bd.exec
  have hby := Bd.bytes
  have hml : c.maxLocals = 1 := hml0
  have hown : s.vm.findClass "com/example/hueline/hueline/model/Graph" = some m.cls := findClass_of_methodNamed Bd.named
  have hnm := (name_of_methodNamed Bd.named Bd.method).1
  have hlk : meth.locks = false := Bd.notSynchronized
  have X0 : Stand p l e ({ frames := 0, cells := 0, slots := 0, locals := 0 } : Room) s m #[(.ref a1)] below meth c s₁ [] 0 0 := Stand.of_body Bd
  have e0 : s₁.heap = h0 := by rw [← hh, Bd.state]; rfl
  have N0 := Fr.nil n0
  refine own_body (Q := fun v h L => v = some (.int n2) ∧ Fr n0 L ∧ h = h0) ?_
  generalize hΦ : own_Fin s below _ _ _ = Φ
  refine own_cast (ef_8_R m a1) ?_
  show own_Run p e below Φ (s₁.setTop (mkF m 0 #[.val (.ref a1)] []))
  refine own_go (fun t k => XS.aloadN X0.here hx rfl (hb hby d8_0) rfl rfl  k) ?_
  obtain ⟨T1, X1, e1, st1⟩ := getF X0 hx hZ hown (host := "") (Or.inl (hw _ (List.mem_of_getElem? (i := 45) rfl))) Via.refl e0 H1 (g := (mkF m 1 #[.val (.ref a1)] [(.ref a1)])) rfl rfl (hb hby d8_1)
  refine own_go st1 ?_
  refine own_arrlen X1 hx hZ e1 H2 (g := (mkF m 4 #[.val (.ref a1)] [(.ref a2)])) rfl rfl (hb hby d8_4) ?_
  subst hΦ
  exact own_retI X1 hx Bd.returns hlk (hb hby d8_5) e1 ⟨rfl, N0, rfl⟩ (by decide) (by decide)
theorem d9_0 : decode prog_41_method_9_code 0 = .ok (.aload_n 0, 1) := by decide +kernel
theorem d9_1 : decode prog_41_method_9_code 1 = .ok (.getfield 36, 3) := by decide +kernel
theorem d9_4 : decode prog_41_method_9_code 4 = .ok (.ireturn, 1) := by decide +kernel
theorem ef_9_R (m : MethodId) (x0 : Addr) : entryFrame m #[(.ref x0)] 1 = mkF m 0 #[.val (.ref x0)] [] := by first | (simp [entryFrame, mkF, argsToLocals, Value.category]; done) | rfl
set_option maxRecDepth 65536 in
set_option maxHeartbeats 40000000 in
theorem rm_xd (l : Launch) (Z : State) (a0 : Array Value) (hw : ∀ d ∈ tables_1, d.before a0 Z = true) (a1 : Addr) (p2 : Int32) (h0 : Heap) (n0 : Nat) (H1 : Fld Z h0 a1 "com/example/hueline/hueline/model/Graph" "maxDegree" "I" (.int p2)) :
    own_Met l Z (⟨"com/example/hueline/hueline/model/Graph", "maxDegree", "()I"⟩ : MethodName) prog_41_method_9_code 1 (some .int) ({ frames := 0, cells := 0, slots := 0, locals := 0 } : Room) #[(.ref a1)] h0 (fun v h L => v = some (.int p2) ∧ Fr n0 L ∧ h = h0) := by
  intro ws
  refine MetFree.of_bodySF (plainFor_of_name pn_c4) hisR ?_
  intro p e s m args below meth c s₁ Bd hml0 hP hK
  obtain ⟨rfl, hZ, hh⟩ := hP
  have hx := Bd.exec
  have hby := Bd.bytes
  have hml : c.maxLocals = 1 := hml0
  have hown : s.vm.findClass "com/example/hueline/hueline/model/Graph" = some m.cls := findClass_of_methodNamed Bd.named
  have hnm := (name_of_methodNamed Bd.named Bd.method).1
  have hlk : meth.locks = false := Bd.notSynchronized
  have X0 : Stand p l e ({ frames := 0, cells := 0, slots := 0, locals := 0 } : Room) s m #[(.ref a1)] below meth c s₁ [] 0 0 := Stand.of_body Bd
  have e0 : s₁.heap = h0 := by rw [← hh, Bd.state]; rfl
  have N0 := Fr.nil n0
  refine own_body (Q := fun v h L => v = some (.int p2) ∧ Fr n0 L ∧ h = h0) ?_
  generalize hΦ : own_Fin s below _ _ _ = Φ
  refine own_cast (ef_9_R m a1) ?_
  show own_Run p e below Φ (s₁.setTop (mkF m 0 #[.val (.ref a1)] []))
  refine own_go (fun t k => XS.aloadN X0.here hx rfl (hb hby d9_0) rfl rfl  k) ?_
  obtain ⟨T1, X1, e1, st1⟩ := getF X0 hx hZ hown (host := "") (Or.inl (hw _ (List.mem_of_getElem? (i := 64) rfl))) Via.refl e0 H1 (g := (mkF m 1 #[.val (.ref a1)] [(.ref a1)])) rfl rfl (hb hby d9_1)
  refine own_go st1 ?_
  subst hΦ
  exact own_retI X1 hx Bd.returns hlk (hb hby d9_4) e1 ⟨rfl, N0, rfl⟩ (by decide) (by decide)
theorem pn_c0 : plainName "com/example/hueline/hueline/model/GraphDegreePinLaw" = true := by first | (simp [plainName, overriddenIn]; done) | decide +kernel
theorem pd_0 : parseMethodDescriptor "(J)V" = some ⟨[.long], none⟩ := by decide +kernel
theorem pd_4 : parseMethodDescriptor "([JLcom/example/hueline/hueline/model/BigIntArray;Lcom/example/hueline/hueline/model/BigIntArray;[JLcom/example/hueline/hueline/model/BigIntArray;)V" = some ⟨[(.array .long), (.object "com/example/hueline/hueline/model/BigIntArray"), (.object "com/example/hueline/hueline/model/BigIntArray"), (.array .long), (.object "com/example/hueline/hueline/model/BigIntArray")], none⟩ := by decide +kernel
theorem pd_7 : parseMethodDescriptor "()I" = some ⟨[], some .int⟩ := by decide +kernel
theorem ef_0_JIII (m : MethodId) (x0 : Int64) (x1 : Int32) (x2 : Int32) (x3 : Int32) : entryFrame m #[(.long x0), (.int x1), (.int x2), (.int x3)] maxLocals = mkF m 0 #[.val (.long x0), .second, .val (.int x1), .val (.int x2), .val (.int x3), .unset, .unset, .unset, .unset, .unset, .unset, .unset, .unset, .unset, .unset] [] := by first | (simp [entryFrame, mkF, argsToLocals, Value.category, maxLocals]; done) | rfl
set_option maxRecDepth 65536 in
set_option maxHeartbeats 40000000 in
theorem rm_law (l : Launch) (Z : State) (a0 : Array Value) (hw : ∀ d ∈ tables_1, d.before a0 Z = true) (q1 : Int64) (p2 : Int32) (p3 : Int32) (p4 : Int32) (w1 : Addr) (h0 : Heap) (n0 : Nat) (Z0 : n0 ≤ h0.size) (O0 : Old Z n0 h0) (S0 : Sta Z Z.heap "com/example/hueline/hueline/model/Pages" "STANDARD" "Lcom/example/hueline/hueline/model/Pages;" (.ref w1)) (A0 : Exa Z Z.heap w1 "com/example/hueline/hueline/model/Pages") (B0 : Fld Z Z.heap w1 "com/example/hueline/hueline/model/Pages" "mask" "I" (.int (1073741823 : Int32))) (C0 : Fld Z Z.heap w1 "com/example/hueline/hueline/model/Pages" "shift" "I" (.int (30 : Int32))) :
    own_Met l Z x code maxLocals ret room_1 #[(.long q1), (.int p2), (.int p3), (.int p4)] h0 (fun v h L => v = some (.int 1) ∧ Fr n0 L) := by
  intro ws
  refine MetFree.of_bodySF (plainFor_of_name pn_c0) hisR ?_
  intro p e s m args below meth c s₁ Bd hml0 hP hK
  obtain ⟨rfl, hZ, hh⟩ := hP
  have hx := Bd.exec
  have hby := Bd.bytes
  have hml : c.maxLocals = 15 := hml0
  have hown : s.vm.findClass "com/example/hueline/hueline/model/GraphDegreePinLaw" = some m.cls := findClass_of_methodNamed Bd.named
  have hnm := (name_of_methodNamed Bd.named Bd.method).1
  have hlk : meth.locks = false := Bd.notSynchronized
  have X0 : Stand p l e room_1 s m #[(.long q1), (.int p2), (.int p3), (.int p4)] below meth c s₁ [] 0 0 := Stand.of_body Bd
  have e0 : s₁.heap = h0 := by rw [← hh, Bd.state]; rfl
  have N0 := Fr.nil n0
  refine own_body (Q := fun v h L => v = some (.int 1) ∧ Fr n0 L) ?_
  generalize hΦ : own_Fin s below _ _ _ = Φ
  refine own_cast (ef_0_JIII m q1 p2 p3 p4) ?_
  show own_Run p e below Φ (s₁.setTop (mkF m 0 #[.val (.long q1), .second, .val (.int p2), .val (.int p3), .val (.int p4), .unset, .unset, .unset, .unset, .unset, .unset, .unset, .unset, .unset, .unset] []))
  refine own_go (fun t k => XS.lloadN X0.here hx rfl (hb hby at_0) rfl  k) ?_
  refine own_go (X0.ldc2Long hx hown (mvT hZ (hw _ (List.mem_of_getElem? (i := 0) rfl))) (g := (mkF m 1 #[.val (.long q1), .second, .val (.int p2), .val (.int p3), .val (.int p4), .unset, .unset, .unset, .unset, .unset, .unset, .unset, .unset, .unset, .unset] [(.long q1)])) rfl (hb hby at_1)) ?_
  refine own_go (fun t k => XS.land X0.here hx rfl (hb hby at_4) rfl k) ?_
  refine own_go (fun t k => XS.lstore X0.here hx rfl (hb hby at_5) rfl (l' := #[.val (.long q1), .second, .val (.int p2), .val (.int p3), .val (.int p4), .val (.long (q1 &&& (4294967295 : Int64))), .second, .unset, .unset, .unset, .unset, .unset, .unset, .unset, .unset]) rfl k) ?_
  refine own_go (fun t k => XS.iloadN X0.here hx rfl (hb hby at_7) rfl  k) ?_
  show own_Run p e below Φ (s₁.setTop (mkF m 8 #[.val (.long q1), .second, .val (.int p2), .val (.int p3), .val (.int p4), .val (.long (q1 &&& (4294967295 : Int64))), .second, .unset, .unset, .unset, .unset, .unset, .unset, .unset, .unset] [(.int p2)]))
  refine own_go (X0.ldcInt hx hown (mvT hZ (hw _ (List.mem_of_getElem? (i := 1) rfl))) (g := (mkF m 8 #[.val (.long q1), .second, .val (.int p2), .val (.int p3), .val (.int p4), .val (.long (q1 &&& (4294967295 : Int64))), .second, .unset, .unset, .unset, .unset, .unset, .unset, .unset, .unset] [(.int p2)])) rfl (hb hby at_8)) ?_
  refine own_go (fun t k => XS.iand X0.here hx rfl (hb hby at_10) rfl k) ?_
  refine own_go (fun t k => XS.istore X0.here hx rfl (hb hby at_11) rfl (l' := #[.val (.long q1), .second, .val (.int p2), .val (.int p3), .val (.int p4), .val (.long (q1 &&& (4294967295 : Int64))), .second, .val (.int (p2 &&& (1073741823 : Int32))), .unset, .unset, .unset, .unset, .unset, .unset, .unset]) rfl k) ?_
  refine own_go (fun t k => XS.iloadN X0.here hx rfl (hb hby at_13) rfl  k) ?_
  refine own_go (X0.ldcInt hx hown (mvT hZ (hw _ (List.mem_of_getElem? (i := 1) rfl))) (g := (mkF m 14 #[.val (.long q1), .second, .val (.int p2), .val (.int p3), .val (.int p4), .val (.long (q1 &&& (4294967295 : Int64))), .second, .val (.int (p2 &&& (1073741823 : Int32))), .unset, .unset, .unset, .unset, .unset, .unset, .unset] [(.int p3)])) rfl (hb hby at_14)) ?_
  show own_Run p e below Φ (s₁.setTop (mkF m 16 #[.val (.long q1), .second, .val (.int p2), .val (.int p3), .val (.int p4), .val (.long (q1 &&& (4294967295 : Int64))), .second, .val (.int (p2 &&& (1073741823 : Int32))), .unset, .unset, .unset, .unset, .unset, .unset, .unset] [(.int (1073741823 : Int32)), (.int p3)]))
  refine own_go (fun t k => XS.iand X0.here hx rfl (hb hby at_16) rfl k) ?_
  refine own_go (fun t k => XS.istore X0.here hx rfl (hb hby at_17) rfl (l' := #[.val (.long q1), .second, .val (.int p2), .val (.int p3), .val (.int p4), .val (.long (q1 &&& (4294967295 : Int64))), .second, .val (.int (p2 &&& (1073741823 : Int32))), .val (.int (p3 &&& (1073741823 : Int32))), .unset, .unset, .unset, .unset, .unset, .unset]) rfl k) ?_
  refine own_go (fun t k => XS.iload X0.here hx rfl (hb hby at_19) rfl  k) ?_
  refine own_go (X0.ldcInt hx hown (mvT hZ (hw _ (List.mem_of_getElem? (i := 1) rfl))) (g := (mkF m 21 #[.val (.long q1), .second, .val (.int p2), .val (.int p3), .val (.int p4), .val (.long (q1 &&& (4294967295 : Int64))), .second, .val (.int (p2 &&& (1073741823 : Int32))), .val (.int (p3 &&& (1073741823 : Int32))), .unset, .unset, .unset, .unset, .unset, .unset] [(.int p4)])) rfl (hb hby at_21)) ?_
  refine own_go (fun t k => XS.iand X0.here hx rfl (hb hby at_23) rfl k) ?_
  show own_Run p e below Φ (s₁.setTop (mkF m 24 #[.val (.long q1), .second, .val (.int p2), .val (.int p3), .val (.int p4), .val (.long (q1 &&& (4294967295 : Int64))), .second, .val (.int (p2 &&& (1073741823 : Int32))), .val (.int (p3 &&& (1073741823 : Int32))), .unset, .unset, .unset, .unset, .unset, .unset] [(.int (p4 &&& (1073741823 : Int32)))]))
  refine own_go (fun t k => XS.istore X0.here hx rfl (hb hby at_24) rfl (l' := #[.val (.long q1), .second, .val (.int p2), .val (.int p3), .val (.int p4), .val (.long (q1 &&& (4294967295 : Int64))), .second, .val (.int (p2 &&& (1073741823 : Int32))), .val (.int (p3 &&& (1073741823 : Int32))), .val (.int (p4 &&& (1073741823 : Int32))), .unset, .unset, .unset, .unset, .unset]) rfl k) ?_
  show own_Run p e below Φ (s₁.setTop (mkF m 26 #[.val (.long q1), .second, .val (.int p2), .val (.int p3), .val (.int p4), .val (.long (q1 &&& (4294967295 : Int64))), .second, .val (.int (p2 &&& (1073741823 : Int32))), .val (.int (p3 &&& (1073741823 : Int32))), .val (.int (p4 &&& (1073741823 : Int32))), .unset, .unset, .unset, .unset, .unset] []))
  generalize eoo : (q1 &&& (4294967295 : Int64)) = oo
  have hx0 := own_m30 p2
  generalize ex0 : (p2 &&& (1073741823 : Int32)) = x0 at hx0 ⊢
  have hx1 := own_m30 p3
  generalize ex1 : (p3 &&& (1073741823 : Int32)) = x1 at hx1 ⊢
  have hx2 := own_m30 p4
  generalize ex2 : (p4 &&& (1073741823 : Int32)) = x2 at hx2 ⊢
  show own_Run p e below Φ (s₁.setTop (mkF m 26 #[.val (.long q1), .second, .val (.int p2), .val (.int p3), .val (.int p4), .val (.long oo), .second, .val (.int x0), .val (.int x1), .val (.int x2), .unset, .unset, .unset, .unset, .unset] []))
  refine own_go (fun t k => XS.iconst X0.here hx rfl (hb hby at_26) k) ?_
  refine own_newP X0 hx hZ (hw _ (List.mem_of_getElem? (i := 2) rfl)) e0 (g := (mkF m 27 #[.val (.long q1), .second, .val (.int p2), .val (.int p3), .val (.int p4), .val (.long oo), .second, .val (.int x0), .val (.int x1), .val (.int x2), .unset, .unset, .unset, .unset, .unset] [(.int (4 : Int32))])) rfl (hb hby at_27) rfl (by decide) 4 (by decide) (by decide) (by decide) (by decide) 4 (fun T1 h1 k1 b1 X1 e1 E1 g1 V1 => ?_)
  replace V1 : Arv Z h1 b1 k1 .long (4 : Int32) [(.long (0 : Int64)), (.long (0 : Int64)), (.long (0 : Int64)), (.long (0 : Int64))] (.long (0 : Int64)) := V1
  refine own_go (fun t k => XS.astore X1.here hx rfl (hb hby at_29) rfl rfl (l' := #[.val (.long q1), .second, .val (.int p2), .val (.int p3), .val (.int p4), .val (.long oo), .second, .val (.int x0), .val (.int x1), .val (.int x2), .val (.ref b1), .unset, .unset, .unset, .unset]) rfl k) ?_
  refine own_go (fun t k => XS.aload X1.here hx rfl (hb hby at_31) rfl rfl  k) ?_
  refine own_go (fun t k => XS.iconst X1.here hx rfl (hb hby at_33) k) ?_
  show own_Run p e below Φ (T1.setTop (mkF m 34 #[.val (.long q1), .second, .val (.int p2), .val (.int p3), .val (.int p4), .val (.long oo), .second, .val (.int x0), .val (.int x1), .val (.int x2), .val (.ref b1), .unset, .unset, .unset, .unset] [(.int (0 : Int32)), (.ref b1)]))
  refine own_go (fun t k => XS.lload X1.here hx rfl (hb hby at_34) rfl  k) ?_
  refine own_lastore X1 hx hZ e1 V1 (j := (0 : Int32)) ⟨by decide, by decide⟩ 0 rfl (Nat.le_of_ble_eq_true rfl) (g := (mkF m 36 #[.val (.long q1), .second, .val (.int p2), .val (.int p3), .val (.int p4), .val (.long oo), .second, .val (.int x0), .val (.int x1), .val (.int x2), .val (.ref b1), .unset, .unset, .unset, .unset] [(.long oo), (.int (0 : Int32)), (.ref b1)])) rfl rfl (hb hby at_36) (fun T3 h3 X3 e3 W3 V3 => ?_)
  replace V3 : Arv Z h3 b1 k1 .long (4 : Int32) [(.long oo), (.long (0 : Int64)), (.long (0 : Int64)), (.long (0 : Int64))] (.long (0 : Int64)) := V3
  have N3 := Fr.snoc X3 N0 (Nat.le_trans Z0 (Nat.le_of_eq g1.symm))
  refine own_go (fun t k => XS.aload X3.here hx rfl (hb hby at_37) rfl rfl  k) ?_
  refine own_go (fun t k => XS.iconst X3.here hx rfl (hb hby at_39) k) ?_
  refine own_go (fun t k => XS.lload X3.here hx rfl (hb hby at_40) rfl  k) ?_
  show own_Run p e below Φ (T3.setTop (mkF m 42 #[.val (.long q1), .second, .val (.int p2), .val (.int p3), .val (.int p4), .val (.long oo), .second, .val (.int x0), .val (.int x1), .val (.int x2), .val (.ref b1), .unset, .unset, .unset, .unset] [(.long oo), (.int (1 : Int32)), (.ref b1)]))
  refine own_go (fun t k => XS.iload X3.here hx rfl (hb hby at_42) rfl  k) ?_
  refine own_go (fun t k => XS.i2l X3.here hx rfl (hb hby at_44) rfl k) ?_
  refine own_go (fun t k => XS.ladd X3.here hx rfl (hb hby at_45) rfl k) ?_
  refine own_lastore X3 hx hZ e3 V3 (j := (1 : Int32)) ⟨by decide, by decide⟩ 1 rfl (Nat.le_of_ble_eq_true rfl) (g := (mkF m 46 #[.val (.long q1), .second, .val (.int p2), .val (.int p3), .val (.int p4), .val (.long oo), .second, .val (.int x0), .val (.int x1), .val (.int x2), .val (.ref b1), .unset, .unset, .unset, .unset] [(.long (oo + (x0.toInt64))), (.int (1 : Int32)), (.ref b1)])) rfl rfl (hb hby at_46) (fun T4 h4 X4 e4 W4 V4 => ?_)
  replace V4 : Arv Z h4 b1 k1 .long (4 : Int32) [(.long oo), (.long (oo + (x0.toInt64))), (.long (0 : Int64)), (.long (0 : Int64))] (.long (0 : Int64)) := V4
  have N4 := Fr.snoc X4 N3 (Nat.le_trans Z0 (Nat.le_of_eq g1.symm))
  refine own_go (fun t k => XS.aload X4.here hx rfl (hb hby at_47) rfl rfl  k) ?_
  show own_Run p e below Φ (T4.setTop (mkF m 49 #[.val (.long q1), .second, .val (.int p2), .val (.int p3), .val (.int p4), .val (.long oo), .second, .val (.int x0), .val (.int x1), .val (.int x2), .val (.ref b1), .unset, .unset, .unset, .unset] [(.ref b1)]))
  refine own_go (fun t k => XS.iconst X4.here hx rfl (hb hby at_49) k) ?_
  refine own_go (fun t k => XS.aload X4.here hx rfl (hb hby at_50) rfl rfl  k) ?_
  refine own_go (fun t k => XS.iconst X4.here hx rfl (hb hby at_52) k) ?_
  refine own_laload X4 hx hZ e4 V4 (j := (1 : Int32)) (v := (.long (oo + (x0.toInt64)))) ⟨by decide, by decide⟩ rfl (g := (mkF m 53 #[.val (.long q1), .second, .val (.int p2), .val (.int p3), .val (.int p4), .val (.long oo), .second, .val (.int x0), .val (.int x1), .val (.int x2), .val (.ref b1), .unset, .unset, .unset, .unset] [(.int (1 : Int32)), (.ref b1), (.int (2 : Int32)), (.ref b1)])) rfl rfl (hb hby at_53) ?_
  refine own_go (fun t k => XS.iload X4.here hx rfl (hb hby at_54) rfl  k) ?_
  show own_Run p e below Φ (T4.setTop (mkF m 56 #[.val (.long q1), .second, .val (.int p2), .val (.int p3), .val (.int p4), .val (.long oo), .second, .val (.int x0), .val (.int x1), .val (.int x2), .val (.ref b1), .unset, .unset, .unset, .unset] [(.int x1), (.long (oo + (x0.toInt64))), (.int (2 : Int32)), (.ref b1)]))
  refine own_go (fun t k => XS.i2l X4.here hx rfl (hb hby at_56) rfl k) ?_
  refine own_go (fun t k => XS.ladd X4.here hx rfl (hb hby at_57) rfl k) ?_
  refine own_lastore X4 hx hZ e4 V4 (j := (2 : Int32)) ⟨by decide, by decide⟩ 2 rfl (Nat.le_of_ble_eq_true rfl) (g := (mkF m 58 #[.val (.long q1), .second, .val (.int p2), .val (.int p3), .val (.int p4), .val (.long oo), .second, .val (.int x0), .val (.int x1), .val (.int x2), .val (.ref b1), .unset, .unset, .unset, .unset] [(.long ((oo + (x0.toInt64)) + (x1.toInt64))), (.int (2 : Int32)), (.ref b1)])) rfl rfl (hb hby at_58) (fun T5 h5 X5 e5 W5 V5 => ?_)
  replace V5 : Arv Z h5 b1 k1 .long (4 : Int32) [(.long oo), (.long (oo + (x0.toInt64))), (.long ((oo + (x0.toInt64)) + (x1.toInt64))), (.long (0 : Int64))] (.long (0 : Int64)) := V5
  have N5 := Fr.snoc X5 N4 (Nat.le_trans Z0 (Nat.le_of_eq g1.symm))
  refine own_go (fun t k => XS.aload X5.here hx rfl (hb hby at_59) rfl rfl  k) ?_
  refine own_go (fun t k => XS.iconst X5.here hx rfl (hb hby at_61) k) ?_
  show own_Run p e below Φ (T5.setTop (mkF m 62 #[.val (.long q1), .second, .val (.int p2), .val (.int p3), .val (.int p4), .val (.long oo), .second, .val (.int x0), .val (.int x1), .val (.int x2), .val (.ref b1), .unset, .unset, .unset, .unset] [(.int (3 : Int32)), (.ref b1)]))
  refine own_go (fun t k => XS.aload X5.here hx rfl (hb hby at_62) rfl rfl  k) ?_
  refine own_go (fun t k => XS.iconst X5.here hx rfl (hb hby at_64) k) ?_
  refine own_laload X5 hx hZ e5 V5 (j := (2 : Int32)) (v := (.long ((oo + (x0.toInt64)) + (x1.toInt64)))) ⟨by decide, by decide⟩ rfl (g := (mkF m 65 #[.val (.long q1), .second, .val (.int p2), .val (.int p3), .val (.int p4), .val (.long oo), .second, .val (.int x0), .val (.int x1), .val (.int x2), .val (.ref b1), .unset, .unset, .unset, .unset] [(.int (2 : Int32)), (.ref b1), (.int (3 : Int32)), (.ref b1)])) rfl rfl (hb hby at_65) ?_
  refine own_go (fun t k => XS.iload X5.here hx rfl (hb hby at_66) rfl  k) ?_
  refine own_go (fun t k => XS.i2l X5.here hx rfl (hb hby at_68) rfl k) ?_
  show own_Run p e below Φ (T5.setTop (mkF m 69 #[.val (.long q1), .second, .val (.int p2), .val (.int p3), .val (.int p4), .val (.long oo), .second, .val (.int x0), .val (.int x1), .val (.int x2), .val (.ref b1), .unset, .unset, .unset, .unset] [(.long (x2.toInt64)), (.long ((oo + (x0.toInt64)) + (x1.toInt64))), (.int (3 : Int32)), (.ref b1)]))
  refine own_go (fun t k => XS.ladd X5.here hx rfl (hb hby at_69) rfl k) ?_
  refine own_lastore X5 hx hZ e5 V5 (j := (3 : Int32)) ⟨by decide, by decide⟩ 3 rfl (Nat.le_of_ble_eq_true rfl) (g := (mkF m 70 #[.val (.long q1), .second, .val (.int p2), .val (.int p3), .val (.int p4), .val (.long oo), .second, .val (.int x0), .val (.int x1), .val (.int x2), .val (.ref b1), .unset, .unset, .unset, .unset] [(.long (((oo + (x0.toInt64)) + (x1.toInt64)) + (x2.toInt64))), (.int (3 : Int32)), (.ref b1)])) rfl rfl (hb hby at_70) (fun T6 h6 X6 e6 W6 V6 => ?_)
  replace V6 : Arv Z h6 b1 k1 .long (4 : Int32) [(.long oo), (.long (oo + (x0.toInt64))), (.long ((oo + (x0.toInt64)) + (x1.toInt64))), (.long (((oo + (x0.toInt64)) + (x1.toInt64)) + (x2.toInt64)))] (.long (0 : Int64)) := V6
  have N6 := Fr.snoc X6 N5 (Nat.le_trans Z0 (Nat.le_of_eq g1.symm))
  refine own_go (fun t k => XS.iconst X6.here hx rfl (hb hby at_71) k) ?_
  have F8 : n0 ≤ h6.size := (Nat.le_trans (Nat.le_trans (Nat.le_trans (Nat.le_trans (Nat.le_trans Z0 E1.1) (Keep.of_wr W3).1) (Keep.of_wr W4).1) (Keep.of_wr W5).1) (Keep.of_wr W6).1)
  refine own_newP X6 hx hZ (hw _ (List.mem_of_getElem? (i := 2) rfl)) e6 (g := (mkF m 72 #[.val (.long q1), .second, .val (.int p2), .val (.int p3), .val (.int p4), .val (.long oo), .second, .val (.int x0), .val (.int x1), .val (.int x2), .val (.ref b1), .unset, .unset, .unset, .unset] [(.int (3 : Int32))])) rfl (hb hby at_72) rfl (by decide) 3 (by decide) (by decide) (by decide) (by decide) 3 (fun T7 h7 k7 b7 X7 e7 E7 g7 V7 => ?_)
  have ne_b1_b7 : b1 ≠ b7 := Nat.ne_of_lt (Nat.lt_of_lt_of_le V6.lt (Nat.le_of_eq g7.symm))
  replace V7 : Arv Z h7 b7 k7 .long (3 : Int32) [(.long (0 : Int64)), (.long (0 : Int64)), (.long (0 : Int64))] (.long (0 : Int64)) := V7
  refine own_go (fun t k => XS.astore X7.here hx rfl (hb hby at_74) rfl rfl (l' := #[.val (.long q1), .second, .val (.int p2), .val (.int p3), .val (.int p4), .val (.long oo), .second, .val (.int x0), .val (.int x1), .val (.int x2), .val (.ref b1), .val (.ref b7), .unset, .unset, .unset]) rfl k) ?_
  show own_Run p e below Φ (T7.setTop (mkF m 76 #[.val (.long q1), .second, .val (.int p2), .val (.int p3), .val (.int p4), .val (.long oo), .second, .val (.int x0), .val (.int x1), .val (.int x2), .val (.ref b1), .val (.ref b7), .unset, .unset, .unset] []))
  refine own_go (fun t k => XS.aload X7.here hx rfl (hb hby at_76) rfl rfl  k) ?_
  refine own_go (fun t k => XS.iconst X7.here hx rfl (hb hby at_78) k) ?_
  refine own_go (fun t k => XS.lloadN X7.here hx rfl (hb hby at_79) rfl  k) ?_
  refine own_lastore X7 hx hZ e7 V7 (j := (0 : Int32)) ⟨by decide, by decide⟩ 0 rfl (Nat.le_of_ble_eq_true rfl) (g := (mkF m 80 #[.val (.long q1), .second, .val (.int p2), .val (.int p3), .val (.int p4), .val (.long oo), .second, .val (.int x0), .val (.int x1), .val (.int x2), .val (.ref b1), .val (.ref b7), .unset, .unset, .unset] [(.long q1), (.int (0 : Int32)), (.ref b7)])) rfl rfl (hb hby at_80) (fun T10 h10 X10 e10 W10 V10 => ?_)
  replace V10 : Arv Z h10 b7 k7 .long (3 : Int32) [(.long q1), (.long (0 : Int64)), (.long (0 : Int64))] (.long (0 : Int64)) := V10
  have N10 := Fr.snoc X10 N6 (Nat.le_trans F8 (Nat.le_of_eq g7.symm))
  refine own_go (fun t k => XS.aload X10.here hx rfl (hb hby at_81) rfl rfl  k) ?_
  show own_Run p e below Φ (T10.setTop (mkF m 83 #[.val (.long q1), .second, .val (.int p2), .val (.int p3), .val (.int p4), .val (.long oo), .second, .val (.int x0), .val (.int x1), .val (.int x2), .val (.ref b1), .val (.ref b7), .unset, .unset, .unset] [(.ref b7)]))
  refine own_go (fun t k => XS.iconst X10.here hx rfl (hb hby at_83) k) ?_
  refine own_go (fun t k => XS.iloadN X10.here hx rfl (hb hby at_84) rfl  k) ?_
  refine own_go (fun t k => XS.i2l X10.here hx rfl (hb hby at_85) rfl k) ?_
  refine own_lastore X10 hx hZ e10 V10 (j := (1 : Int32)) ⟨by decide, by decide⟩ 1 rfl (Nat.le_of_ble_eq_true rfl) (g := (mkF m 86 #[.val (.long q1), .second, .val (.int p2), .val (.int p3), .val (.int p4), .val (.long oo), .second, .val (.int x0), .val (.int x1), .val (.int x2), .val (.ref b1), .val (.ref b7), .unset, .unset, .unset] [(.long (p2.toInt64)), (.int (1 : Int32)), (.ref b7)])) rfl rfl (hb hby at_86) (fun T11 h11 X11 e11 W11 V11 => ?_)
  replace V11 : Arv Z h11 b7 k7 .long (3 : Int32) [(.long q1), (.long (p2.toInt64)), (.long (0 : Int64))] (.long (0 : Int64)) := V11
  have N11 := Fr.snoc X11 N10 (Nat.le_trans F8 (Nat.le_of_eq g7.symm))
  refine own_go (fun t k => XS.aload X11.here hx rfl (hb hby at_87) rfl rfl  k) ?_
  show own_Run p e below Φ (T11.setTop (mkF m 89 #[.val (.long q1), .second, .val (.int p2), .val (.int p3), .val (.int p4), .val (.long oo), .second, .val (.int x0), .val (.int x1), .val (.int x2), .val (.ref b1), .val (.ref b7), .unset, .unset, .unset] [(.ref b7)]))
  refine own_go (fun t k => XS.iconst X11.here hx rfl (hb hby at_89) k) ?_
  refine own_go (fun t k => XS.iloadN X11.here hx rfl (hb hby at_90) rfl  k) ?_
  refine own_go (fun t k => XS.i2l X11.here hx rfl (hb hby at_91) rfl k) ?_
  refine own_lastore X11 hx hZ e11 V11 (j := (2 : Int32)) ⟨by decide, by decide⟩ 2 rfl (Nat.le_of_ble_eq_true rfl) (g := (mkF m 92 #[.val (.long q1), .second, .val (.int p2), .val (.int p3), .val (.int p4), .val (.long oo), .second, .val (.int x0), .val (.int x1), .val (.int x2), .val (.ref b1), .val (.ref b7), .unset, .unset, .unset] [(.long (p3.toInt64)), (.int (2 : Int32)), (.ref b7)])) rfl rfl (hb hby at_92) (fun T12 h12 X12 e12 W12 V12 => ?_)
  replace V12 : Arv Z h12 b7 k7 .long (3 : Int32) [(.long q1), (.long (p2.toInt64)), (.long (p3.toInt64))] (.long (0 : Int64)) := V12
  have N12 := Fr.snoc X12 N11 (Nat.le_trans F8 (Nat.le_of_eq g7.symm))
  have F14 : n0 ≤ h12.size := (Nat.le_trans (Nat.le_trans (Nat.le_trans (Nat.le_trans F8 E7.1) (Keep.of_wr W10).1) (Keep.of_wr W11).1) (Keep.of_wr W12).1)
  have F15 : Arv Z h12 b1 k1 .long (4 : Int32) [(.long oo), (.long (oo + (x0.toInt64))), (.long ((oo + (x0.toInt64)) + (x1.toInt64))), (.long (((oo + (x0.toInt64)) + (x1.toInt64)) + (x2.toInt64)))] (.long (0 : Int64)) := ((((V6.ext E7).other W10 ne_b1_b7).other W11 ne_b1_b7).other W12 ne_b1_b7)
  obtain ⟨T13, h13, X13, e13, E13, A13, D13, -, st13⟩ := newO X12 hx hZ hown (hw _ (List.mem_of_getElem? (i := 3) rfl)) (hw _ (List.mem_of_getElem? (i := 4) rfl)) (hw _ (List.mem_of_getElem? (i := 5) rfl)) e12 (g := (mkF m 93 #[.val (.long q1), .second, .val (.int p2), .val (.int p3), .val (.int p4), .val (.long oo), .second, .val (.int x0), .val (.int x1), .val (.int x2), .val (.ref b1), .val (.ref b7), .unset, .unset, .unset] [])) rfl (hb hby at_93) (by decide) (by decide)
  refine own_go st13 ?_
  obtain ⟨b13, g13⟩ : ∃ z, z = h12.size := ⟨_, rfl⟩
  rw [← g13] at A13 D13 ⊢
  have ne_b1_b13 : b1 ≠ b13 := Nat.ne_of_lt (Nat.lt_of_lt_of_le F15.lt (Nat.le_of_eq g13.symm))
  have ne_b7_b13 : b7 ≠ b13 := Nat.ne_of_lt (Nat.lt_of_lt_of_le V12.lt (Nat.le_of_eq g13.symm))
  have G16 : Fld Z h13 b13 "com/example/hueline/hueline/model/BigIntArray" "layout" "Lcom/example/hueline/hueline/model/Pages;" .null := D13 (Or.inr (hw _ (List.mem_of_getElem? (i := 19) rfl))) (ty := (.object "com/example/hueline/hueline/model/Pages")) (by decide)
  have G17 : Fld Z h13 b13 "com/example/hueline/hueline/model/BigIntArray" "pages" "[[I" .null := D13 (Or.inl (hw _ (List.mem_of_getElem? (i := 33) rfl))) (ty := (.array (.array .int))) (by decide)
  have G18 : Fld Z h13 b13 "com/example/hueline/hueline/model/BigIntArray" "length" "J" (.long (0 : Int64)) := D13 (Or.inl (hw _ (List.mem_of_getElem? (i := 35) rfl))) (ty := .long) (by decide)
  have G19 : Fld Z h13 b13 "com/example/hueline/hueline/model/BigIntArray" "flat" "[I" .null := D13 (Or.inl (hw _ (List.mem_of_getElem? (i := 37) rfl))) (ty := (.array .int)) (by decide)
  show own_Run p e below Φ (T13.setTop (mkF m 96 #[.val (.long q1), .second, .val (.int p2), .val (.int p3), .val (.int p4), .val (.long oo), .second, .val (.int x0), .val (.int x1), .val (.int x2), .val (.ref b1), .val (.ref b7), .unset, .unset, .unset] [(.ref b13)]))
  refine own_go (fun t k => XS.dup X13.here hx rfl (hb hby at_96) rfl rfl k) ?_
  refine own_go (fun t k => XS.lconst X13.here hx rfl (hb hby at_97) k) ?_
  have F20 : n0 ≤ h13.size := (Nat.le_trans F14 E13.1)
  have F21 : Old Z n0 h13 := ((((((((((O0.ext E1).wr W3 (Nat.le_trans Z0 (Nat.le_of_eq g1.symm))).wr W4 (Nat.le_trans Z0 (Nat.le_of_eq g1.symm))).wr W5 (Nat.le_trans Z0 (Nat.le_of_eq g1.symm))).wr W6 (Nat.le_trans Z0 (Nat.le_of_eq g1.symm))).ext E7).wr W10 (Nat.le_trans F8 (Nat.le_of_eq g7.symm))).wr W11 (Nat.le_trans F8 (Nat.le_of_eq g7.symm))).wr W12 (Nat.le_trans F8 (Nat.le_of_eq g7.symm))).ext E13)
  refine own_callI X13 hx hZ (y := (⟨"com/example/hueline/hueline/model/BigIntArray", "<init>", "(J)V"⟩ : MethodName)) (W := 1) (a := b13) (argsL := [(.long (0 : Int64))]) (rest := [(.ref b13)]) rfl hown (hw _ (List.mem_of_getElem? (i := 6) rfl)) (hw _ (List.mem_of_getElem? (i := 7) rfl)) (hw _ (List.mem_of_getElem? (i := 8) rfl)) (by decide) (own_bk (rm_b1 l Z a0 hw b13 w1 h13 n0 A13 G16 G17 G18 G19 (Nat.le_trans F14 (Nat.le_of_eq g13.symm)) F20 F21 A0 B0 C0 S0) hZ (hw _ (List.mem_of_getElem? (i := 8) rfl)) (hw _ (List.mem_of_getElem? (i := 5) rfl)) (by decide) (by decide)) e13 (g := (mkF m 98 #[.val (.long q1), .second, .val (.int p2), .val (.int p3), .val (.int p4), .val (.long oo), .second, .val (.int x0), .val (.int x1), .val (.int x2), .val (.ref b1), .val (.ref b7), .unset, .unset, .unset] [(.long (0 : Int64)), (.ref b13), (.ref b13)])) rfl (by rw [hml]; rfl) (lenOf pd_0 rfl) rfl (by show 2 * 0 + _ ≤ _; exact Nat.le_of_eq rfl) (hb hby at_98) (by decide) (by decide) (fun v22 T22 h22 L22 X22 e22 q22 => ?_)
  obtain ⟨rfl, M22, K22⟩ := q22
  have N22 := Fr.app N12 M22
  refine own_go (fun t k => XS.astore X22.here hx rfl (hb hby at_101) rfl rfl (l' := #[.val (.long q1), .second, .val (.int p2), .val (.int p3), .val (.int p4), .val (.long oo), .second, .val (.int x0), .val (.int x1), .val (.int x2), .val (.ref b1), .val (.ref b7), .val (.ref b13), .unset, .unset]) rfl k) ?_
  have F24 : n0 ≤ h22.size := (Nat.le_trans F20 K22.1)
  have F25 : Arv Z h22 b1 k1 .long (4 : Int32) [(.long oo), (.long (oo + (x0.toInt64))), (.long ((oo + (x0.toInt64)) + (x1.toInt64))), (.long (((oo + (x0.toInt64)) + (x1.toInt64)) + (x2.toInt64)))] (.long (0 : Int64)) := ((F15.ext E13).keep K22 (ninS ne_b1_b13 nin0))
  have F26 : Arv Z h22 b7 k7 .long (3 : Int32) [(.long q1), (.long (p2.toInt64)), (.long (p3.toInt64))] (.long (0 : Int64)) := ((V12.ext E13).keep K22 (ninS ne_b7_b13 nin0))
  have F27 : Exa Z h22 b13 "com/example/hueline/hueline/model/BigIntArray" := (A13.keep K22)
  obtain ⟨T23, h23, X23, e23, E23, A23, D23, -, st23⟩ := newO X22 hx hZ hown (hw _ (List.mem_of_getElem? (i := 38) rfl)) (hw _ (List.mem_of_getElem? (i := 39) rfl)) (hw _ (List.mem_of_getElem? (i := 40) rfl)) e22 (g := (mkF m 103 #[.val (.long q1), .second, .val (.int p2), .val (.int p3), .val (.int p4), .val (.long oo), .second, .val (.int x0), .val (.int x1), .val (.int x2), .val (.ref b1), .val (.ref b7), .val (.ref b13), .unset, .unset] [])) rfl (hb hby at_103) (by decide) (by decide)
  refine own_go st23 ?_
  obtain ⟨b23, g23⟩ : ∃ z, z = h22.size := ⟨_, rfl⟩
  rw [← g23] at A23 D23 ⊢
  have ne_b1_b23 : b1 ≠ b23 := Nat.ne_of_lt (Nat.lt_of_lt_of_le F25.lt (Nat.le_of_eq g23.symm))
  have ne_b7_b23 : b7 ≠ b23 := Nat.ne_of_lt (Nat.lt_of_lt_of_le F26.lt (Nat.le_of_eq g23.symm))
  have ne_b13_b23 : b13 ≠ b23 := Nat.ne_of_lt (Nat.lt_of_lt_of_le F27.lt (Nat.le_of_eq g23.symm))
  have G28 : Fld Z h23 b23 "com/example/hueline/hueline/model/Graph" "ids" "[J" .null := D23 (Or.inr (hw _ (List.mem_of_getElem? (i := 46) rfl))) (ty := (.array .long)) (by decide)
  have G29 : Fld Z h23 b23 "com/example/hueline/hueline/model/Graph" "sources" "Lcom/example/hueline/hueline/model/BigIntArray;" .null := D23 (Or.inr (hw _ (List.mem_of_getElem? (i := 48) rfl))) (ty := (.object "com/example/hueline/hueline/model/BigIntArray")) (by decide)
  have G30 : Fld Z h23 b23 "com/example/hueline/hueline/model/Graph" "targets" "Lcom/example/hueline/hueline/model/BigIntArray;" .null := D23 (Or.inr (hw _ (List.mem_of_getElem? (i := 50) rfl))) (ty := (.object "com/example/hueline/hueline/model/BigIntArray")) (by decide)
  have G31 : Fld Z h23 b23 "com/example/hueline/hueline/model/Graph" "offsets" "[J" .null := D23 (Or.inr (hw _ (List.mem_of_getElem? (i := 52) rfl))) (ty := (.array .long)) (by decide)
  have G32 : Fld Z h23 b23 "com/example/hueline/hueline/model/Graph" "incidences" "Lcom/example/hueline/hueline/model/BigIntArray;" .null := D23 (Or.inr (hw _ (List.mem_of_getElem? (i := 54) rfl))) (ty := (.object "com/example/hueline/hueline/model/BigIntArray")) (by decide)
  have G33 : Fld Z h23 b23 "com/example/hueline/hueline/model/Graph" "maxDegree" "I" (.int (0 : Int32)) := D23 (Or.inr (hw _ (List.mem_of_getElem? (i := 65) rfl))) (ty := .int) (by decide)
  show own_Run p e below Φ (T23.setTop (mkF m 106 #[.val (.long q1), .second, .val (.int p2), .val (.int p3), .val (.int p4), .val (.long oo), .second, .val (.int x0), .val (.int x1), .val (.int x2), .val (.ref b1), .val (.ref b7), .val (.ref b13), .unset, .unset] [(.ref b23)]))
  refine own_go (fun t k => XS.dup X23.here hx rfl (hb hby at_106) rfl rfl k) ?_
  refine own_go (fun t k => XS.aload X23.here hx rfl (hb hby at_107) rfl rfl  k) ?_
  refine own_go (fun t k => XS.aload X23.here hx rfl (hb hby at_109) rfl rfl  k) ?_
  refine own_go (fun t k => XS.aload X23.here hx rfl (hb hby at_111) rfl rfl  k) ?_
  refine own_go (fun t k => XS.aload X23.here hx rfl (hb hby at_113) rfl rfl  k) ?_
  show own_Run p e below Φ (T23.setTop (mkF m 115 #[.val (.long q1), .second, .val (.int p2), .val (.int p3), .val (.int p4), .val (.long oo), .second, .val (.int x0), .val (.int x1), .val (.int x2), .val (.ref b1), .val (.ref b7), .val (.ref b13), .unset, .unset] [(.ref b1), (.ref b13), (.ref b13), (.ref b7), (.ref b23), (.ref b23)]))
  refine own_go (fun t k => XS.aload X23.here hx rfl (hb hby at_115) rfl rfl  k) ?_
  have F34 : Arv Z h23 b7 k7 .long (3 : Int32) [(.long q1), (.long (p2.toInt64)), (.long (p3.toInt64))] (.long (0 : Int64)) := (F26.ext E23)
  have F35 : Arv Z h23 b1 k1 .long (4 : Int32) [(.long oo), (.long (oo + (x0.toInt64))), (.long ((oo + (x0.toInt64)) + (x1.toInt64))), (.long (((oo + (x0.toInt64)) + (x1.toInt64)) + (x2.toInt64)))] (.long (0 : Int64)) := (F25.ext E23)
  refine own_callI X23 hx hZ (y := (⟨"com/example/hueline/hueline/model/Graph", "<init>", "([JLcom/example/hueline/hueline/model/BigIntArray;Lcom/example/hueline/hueline/model/BigIntArray;[JLcom/example/hueline/hueline/model/BigIntArray;)V"⟩ : MethodName)) (W := 1) (a := b23) (argsL := [(.ref b7), (.ref b13), (.ref b13), (.ref b1), (.ref b13)]) (rest := [(.ref b23)]) rfl hown (hw _ (List.mem_of_getElem? (i := 41) rfl)) (hw _ (List.mem_of_getElem? (i := 42) rfl)) (hw _ (List.mem_of_getElem? (i := 43) rfl)) (by decide) (own_bk (rm_gr l Z a0 hw b23 b7 b13 b13 b1 b13 k7 k1 (.long q1) (.long (p2.toInt64)) (.long (p3.toInt64)) oo (oo + (x0.toInt64)) ((oo + (x0.toInt64)) + (x1.toInt64)) (((oo + (x0.toInt64)) + (x1.toInt64)) + (x2.toInt64)) h23 n0 A23 G28 G29 G30 G31 G32 G33 (Nat.le_trans F24 (Nat.le_of_eq g23.symm)) F34 F35 ne_b7_b23 ne_b1_b23) hZ (hw _ (List.mem_of_getElem? (i := 43) rfl)) (hw _ (List.mem_of_getElem? (i := 40) rfl)) (by decide) (by decide)) e23 (g := (mkF m 117 #[.val (.long q1), .second, .val (.int p2), .val (.int p3), .val (.int p4), .val (.long oo), .second, .val (.int x0), .val (.int x1), .val (.int x2), .val (.ref b1), .val (.ref b7), .val (.ref b13), .unset, .unset] [(.ref b13), (.ref b1), (.ref b13), (.ref b13), (.ref b7), (.ref b23), (.ref b23)])) rfl (by rw [hml]; rfl) (lenOf pd_4 rfl) rfl (by show 2 * 0 + _ ≤ _; exact Nat.le_of_eq rfl) (hb hby at_117) (by decide) (by decide) (fun v36 T36 h36 L36 X36 e36 q36 => ?_)
  obtain ⟨rfl, M36, K36, P36_0, P36_1, P36_2⟩ := q36
  have N36 := Fr.app N22 M36
  refine own_go (fun t k => XS.astore X36.here hx rfl (hb hby at_120) rfl rfl (l' := #[.val (.long q1), .second, .val (.int p2), .val (.int p3), .val (.int p4), .val (.long oo), .second, .val (.int x0), .val (.int x1), .val (.int x2), .val (.ref b1), .val (.ref b7), .val (.ref b13), .val (.ref b23), .unset]) rfl k) ?_
  refine own_go (fun t k => XS.iload X36.here hx rfl (hb hby at_122) rfl  k) ?_
  refine own_go (fun t k => XS.iload X36.here hx rfl (hb hby at_124) rfl  k) ?_
  show own_Run p e below Φ (T36.setTop (mkF m 126 #[.val (.long q1), .second, .val (.int p2), .val (.int p3), .val (.int p4), .val (.long oo), .second, .val (.int x0), .val (.int x1), .val (.int x2), .val (.ref b1), .val (.ref b7), .val (.ref b13), .val (.ref b23), .unset] [(.int x1), (.int x0)]))
  refine own_go (fun t k => XS.iload X36.here hx rfl (hb hby at_126) rfl  k) ?_
  refine own_callS X36 hx hZ (y := (⟨"java/lang/Math", "max", "(II)I"⟩ : MethodName)) (W := 1) (argsL := [(.int x1), (.int x2)]) (rest := [(.int x0)]) hown (hw _ (List.mem_of_getElem? (i := 66) rfl)) (hw _ (List.mem_of_getElem? (i := 61) rfl)) (hw _ (List.mem_of_getElem? (i := 62) rfl)) (hw _ (List.mem_of_getElem? (i := 63) rfl)) (by decide) (own_bk (rm_max l Z a0 hw x1 x2 h36 n0 ) hZ (hw _ (List.mem_of_getElem? (i := 63) rfl)) (hw _ (List.mem_of_getElem? (i := 62) rfl)) (by decide) (by decide)) e36 (g := (mkF m 128 #[.val (.long q1), .second, .val (.int p2), .val (.int p3), .val (.int p4), .val (.long oo), .second, .val (.int x0), .val (.int x1), .val (.int x2), .val (.ref b1), .val (.ref b7), .val (.ref b13), .val (.ref b23), .unset] [(.int x2), (.int x1), (.int x0)])) rfl (by rw [hml]; rfl) (lenOf pd_6 rfl) rfl (by show 2 * 0 + _ ≤ _; exact Nat.le_of_eq rfl) (hb hby at_128) (by decide) (by decide) (fun v37 T37 h37 L37 X37 e37 q37 => ?_)
  obtain ⟨rfl, M37, s37⟩ := q37
  replace e37 : T37.heap = h36 := e37.trans s37
  have N37 := Fr.app N36 M37
  refine own_callS X37 hx hZ (y := (⟨"java/lang/Math", "max", "(II)I"⟩ : MethodName)) (W := 0) (argsL := [(.int x0), (.int (own_max x1 x2))]) (rest := []) hown (hw _ (List.mem_of_getElem? (i := 66) rfl)) (hw _ (List.mem_of_getElem? (i := 61) rfl)) (hw _ (List.mem_of_getElem? (i := 62) rfl)) (hw _ (List.mem_of_getElem? (i := 63) rfl)) (by decide) (own_bk (rm_max l Z a0 hw x0 (own_max x1 x2) h36 n0 ) hZ (hw _ (List.mem_of_getElem? (i := 63) rfl)) (hw _ (List.mem_of_getElem? (i := 62) rfl)) (by decide) (by decide)) e37 (g := (mkF m 131 #[.val (.long q1), .second, .val (.int p2), .val (.int p3), .val (.int p4), .val (.long oo), .second, .val (.int x0), .val (.int x1), .val (.int x2), .val (.ref b1), .val (.ref b7), .val (.ref b13), .val (.ref b23), .unset] [(.int (own_max x1 x2)), (.int x0)])) rfl (by rw [hml]; rfl) (lenOf pd_6 rfl) rfl (by show 2 * 0 + _ ≤ _; exact Nat.le_of_eq rfl) (hb hby at_131) (by decide) (by decide) (fun v38 T38 h38 L38 X38 e38 q38 => ?_)
  obtain ⟨rfl, M38, s38⟩ := q38
  replace e38 : T38.heap = h36 := e38.trans s38
  have N38 := Fr.app N37 M38
  refine own_go (fun t k => XS.istore X38.here hx rfl (hb hby at_134) rfl (l' := #[.val (.long q1), .second, .val (.int p2), .val (.int p3), .val (.int p4), .val (.long oo), .second, .val (.int x0), .val (.int x1), .val (.int x2), .val (.ref b1), .val (.ref b7), .val (.ref b13), .val (.ref b23), .val (.int (own_max x0 (own_max x1 x2)))]) rfl k) ?_
  refine own_go (fun t k => XS.aload X38.here hx rfl (hb hby at_136) rfl rfl  k) ?_
  show own_Run p e below Φ (T38.setTop (mkF m 138 #[.val (.long q1), .second, .val (.int p2), .val (.int p3), .val (.int p4), .val (.long oo), .second, .val (.int x0), .val (.int x1), .val (.int x2), .val (.ref b1), .val (.ref b7), .val (.ref b13), .val (.ref b23), .val (.int (own_max x0 (own_max x1 x2)))] [(.ref b23)]))
  have F39 : Arv Z h36 b7 k7 .long (3 : Int32) [(.long q1), (.long (p2.toInt64)), (.long (p3.toInt64))] (.long (0 : Int64)) := (F34.keep K36 (ninS ne_b7_b23 nin0))
  have F41 : Exa Z h36 b23 "com/example/hueline/hueline/model/Graph" := (A23.keep K36)
  refine own_callV X38 hx hZ (y := (⟨"com/example/hueline/hueline/model/Graph", "vertexCount", "()I"⟩ : MethodName)) (z := (⟨"com/example/hueline/hueline/model/Graph", "vertexCount", "()I"⟩ : MethodName)) (W := 0) (a := b23) (argsL := []) (rest := []) hown (hw _ (List.mem_of_getElem? (i := 67) rfl)) (hw _ (List.mem_of_getElem? (i := 68) rfl)) (notFace_of_selects (args := #[]) (mvT hZ (hw _ (List.mem_of_getElem? (i := 70) rfl)))) (hw _ (List.mem_of_getElem? (i := 70) rfl)) (hw _ (List.mem_of_getElem? (i := 69) rfl)) (by decide) (own_bk (rm_vc l Z a0 hw b23 b7 k7 (3 : Int32) _ (.long (0 : Int64)) h36 n0 P36_0 F39) hZ (hw _ (List.mem_of_getElem? (i := 71) rfl)) (hw _ (List.mem_of_getElem? (i := 40) rfl)) (by decide) (by decide)) e38 F41 (g := (mkF m 138 #[.val (.long q1), .second, .val (.int p2), .val (.int p3), .val (.int p4), .val (.long oo), .second, .val (.int x0), .val (.int x1), .val (.int x2), .val (.ref b1), .val (.ref b7), .val (.ref b13), .val (.ref b23), .val (.int (own_max x0 (own_max x1 x2)))] [(.ref b23)])) rfl (by rw [hml]; rfl) (lenOf pd_7 rfl) rfl (by show 2 * 0 + _ ≤ _; exact Nat.le_of_eq rfl) (hb hby at_138) (by decide) (by decide) (fun v40 T40 h40 L40 X40 e40 q40 => ?_)
  obtain ⟨rfl, M40, s40⟩ := q40
  replace e40 : T40.heap = h36 := e40.trans s40
  have N40 := Fr.app N38 M40
  refine own_go (fun t k => XS.iconst X40.here hx rfl (hb hby at_141) k) ?_
  refine own_go (fun t k => XS.icmpNo X40.here hx rfl (hb hby at_142) rfl (teq (rfl : (3 : Int32) = (3 : Int32))).2 k) ?_
  refine own_go (fun t k => XS.aload X40.here hx rfl (hb hby at_145) rfl rfl  k) ?_
  refine own_go (fun t k => XS.iconst X40.here hx rfl (hb hby at_147) k) ?_
  show own_Run p e below Φ (T40.setTop (mkF m 148 #[.val (.long q1), .second, .val (.int p2), .val (.int p3), .val (.int p4), .val (.long oo), .second, .val (.int x0), .val (.int x1), .val (.int x2), .val (.ref b1), .val (.ref b7), .val (.ref b13), .val (.ref b23), .val (.int (own_max x0 (own_max x1 x2)))] [(.int (0 : Int32)), (.ref b23)]))
  have F42 : Arv Z h36 b1 k1 .long (4 : Int32) [(.long oo), (.long (oo + (x0.toInt64))), (.long ((oo + (x0.toInt64)) + (x1.toInt64))), (.long (((oo + (x0.toInt64)) + (x1.toInt64)) + (x2.toInt64)))] (.long (0 : Int64)) := (F35.keep K36 (ninS ne_b1_b23 nin0))
  refine own_callV X40 hx hZ (y := (⟨"com/example/hueline/hueline/model/Graph", "degree", "(I)I"⟩ : MethodName)) (z := (⟨"com/example/hueline/hueline/model/Graph", "degree", "(I)I"⟩ : MethodName)) (W := 0) (a := b23) (argsL := [(.int (0 : Int32))]) (rest := []) hown (hw _ (List.mem_of_getElem? (i := 72) rfl)) (hw _ (List.mem_of_getElem? (i := 56) rfl)) (notFace_of_selects (args := #[]) (mvT hZ (hw _ (List.mem_of_getElem? (i := 58) rfl)))) (hw _ (List.mem_of_getElem? (i := 58) rfl)) (hw _ (List.mem_of_getElem? (i := 57) rfl)) (by decide) (own_bk (rm_dg0 l Z a0 hw b23 b1 k1 oo (oo + (x0.toInt64)) ((oo + (x0.toInt64)) + (x1.toInt64)) (((oo + (x0.toInt64)) + (x1.toInt64)) + (x2.toInt64)) h36 n0 P36_1 F42) hZ (hw _ (List.mem_of_getElem? (i := 59) rfl)) (hw _ (List.mem_of_getElem? (i := 40) rfl)) (by decide) (by decide)) e40 F41 (g := (mkF m 148 #[.val (.long q1), .second, .val (.int p2), .val (.int p3), .val (.int p4), .val (.long oo), .second, .val (.int x0), .val (.int x1), .val (.int x2), .val (.ref b1), .val (.ref b7), .val (.ref b13), .val (.ref b23), .val (.int (own_max x0 (own_max x1 x2)))] [(.int (0 : Int32)), (.ref b23)])) rfl (by rw [hml]; rfl) (lenOf pd_5 rfl) rfl (by show 2 * 0 + _ ≤ _; exact Nat.le_of_eq rfl) (hb hby at_148) (by decide) (by decide) (fun v43 T43 h43 L43 X43 e43 q43 => ?_)
  obtain ⟨rfl, M43, s43⟩ := q43
  replace e43 : T43.heap = h36 := e43.trans s43
  have N43 := Fr.app N40 M43
  refine own_go (fun t k => XS.iload X43.here hx rfl (hb hby at_151) rfl  k) ?_
  have hc153 : (((oo + (x0.toInt64)) - oo).toInt32) = x0 := (own_dd _ _)
  refine own_go (fun t k => XS.icmpNo X43.here hx rfl (hb hby at_153) rfl (teq hc153).2 k) ?_
  refine own_go (fun t k => XS.aload X43.here hx rfl (hb hby at_156) rfl rfl  k) ?_
  refine own_go (fun t k => XS.iconst X43.here hx rfl (hb hby at_158) k) ?_
  show own_Run p e below Φ (T43.setTop (mkF m 159 #[.val (.long q1), .second, .val (.int p2), .val (.int p3), .val (.int p4), .val (.long oo), .second, .val (.int x0), .val (.int x1), .val (.int x2), .val (.ref b1), .val (.ref b7), .val (.ref b13), .val (.ref b23), .val (.int (own_max x0 (own_max x1 x2)))] [(.int (1 : Int32)), (.ref b23)]))
  refine own_callV X43 hx hZ (y := (⟨"com/example/hueline/hueline/model/Graph", "degree", "(I)I"⟩ : MethodName)) (z := (⟨"com/example/hueline/hueline/model/Graph", "degree", "(I)I"⟩ : MethodName)) (W := 0) (a := b23) (argsL := [(.int (1 : Int32))]) (rest := []) hown (hw _ (List.mem_of_getElem? (i := 72) rfl)) (hw _ (List.mem_of_getElem? (i := 56) rfl)) (notFace_of_selects (args := #[]) (mvT hZ (hw _ (List.mem_of_getElem? (i := 58) rfl)))) (hw _ (List.mem_of_getElem? (i := 58) rfl)) (hw _ (List.mem_of_getElem? (i := 57) rfl)) (by decide) (own_bk (rm_dg1 l Z a0 hw b23 b1 k1 oo (oo + (x0.toInt64)) ((oo + (x0.toInt64)) + (x1.toInt64)) (((oo + (x0.toInt64)) + (x1.toInt64)) + (x2.toInt64)) h36 n0 P36_1 F42) hZ (hw _ (List.mem_of_getElem? (i := 59) rfl)) (hw _ (List.mem_of_getElem? (i := 40) rfl)) (by decide) (by decide)) e43 F41 (g := (mkF m 159 #[.val (.long q1), .second, .val (.int p2), .val (.int p3), .val (.int p4), .val (.long oo), .second, .val (.int x0), .val (.int x1), .val (.int x2), .val (.ref b1), .val (.ref b7), .val (.ref b13), .val (.ref b23), .val (.int (own_max x0 (own_max x1 x2)))] [(.int (1 : Int32)), (.ref b23)])) rfl (by rw [hml]; rfl) (lenOf pd_5 rfl) rfl (by show 2 * 0 + _ ≤ _; exact Nat.le_of_eq rfl) (hb hby at_159) (by decide) (by decide) (fun v44 T44 h44 L44 X44 e44 q44 => ?_)
  obtain ⟨rfl, M44, s44⟩ := q44
  replace e44 : T44.heap = h36 := e44.trans s44
  have N44 := Fr.app N43 M44
  refine own_go (fun t k => XS.iload X44.here hx rfl (hb hby at_162) rfl  k) ?_
  have hc164 : ((((oo + (x0.toInt64)) + (x1.toInt64)) - (oo + (x0.toInt64))).toInt32) = x1 := (own_dd _ _)
  refine own_go (fun t k => XS.icmpNo X44.here hx rfl (hb hby at_164) rfl (teq hc164).2 k) ?_
  refine own_go (fun t k => XS.aload X44.here hx rfl (hb hby at_167) rfl rfl  k) ?_
  refine own_go (fun t k => XS.iconst X44.here hx rfl (hb hby at_169) k) ?_
  show own_Run p e below Φ (T44.setTop (mkF m 170 #[.val (.long q1), .second, .val (.int p2), .val (.int p3), .val (.int p4), .val (.long oo), .second, .val (.int x0), .val (.int x1), .val (.int x2), .val (.ref b1), .val (.ref b7), .val (.ref b13), .val (.ref b23), .val (.int (own_max x0 (own_max x1 x2)))] [(.int (2 : Int32)), (.ref b23)]))
  refine own_callV X44 hx hZ (y := (⟨"com/example/hueline/hueline/model/Graph", "degree", "(I)I"⟩ : MethodName)) (z := (⟨"com/example/hueline/hueline/model/Graph", "degree", "(I)I"⟩ : MethodName)) (W := 0) (a := b23) (argsL := [(.int (2 : Int32))]) (rest := []) hown (hw _ (List.mem_of_getElem? (i := 72) rfl)) (hw _ (List.mem_of_getElem? (i := 56) rfl)) (notFace_of_selects (args := #[]) (mvT hZ (hw _ (List.mem_of_getElem? (i := 58) rfl)))) (hw _ (List.mem_of_getElem? (i := 58) rfl)) (hw _ (List.mem_of_getElem? (i := 57) rfl)) (by decide) (own_bk (rm_dg2 l Z a0 hw b23 b1 k1 oo (oo + (x0.toInt64)) ((oo + (x0.toInt64)) + (x1.toInt64)) (((oo + (x0.toInt64)) + (x1.toInt64)) + (x2.toInt64)) h36 n0 P36_1 F42) hZ (hw _ (List.mem_of_getElem? (i := 59) rfl)) (hw _ (List.mem_of_getElem? (i := 40) rfl)) (by decide) (by decide)) e44 F41 (g := (mkF m 170 #[.val (.long q1), .second, .val (.int p2), .val (.int p3), .val (.int p4), .val (.long oo), .second, .val (.int x0), .val (.int x1), .val (.int x2), .val (.ref b1), .val (.ref b7), .val (.ref b13), .val (.ref b23), .val (.int (own_max x0 (own_max x1 x2)))] [(.int (2 : Int32)), (.ref b23)])) rfl (by rw [hml]; rfl) (lenOf pd_5 rfl) rfl (by show 2 * 0 + _ ≤ _; exact Nat.le_of_eq rfl) (hb hby at_170) (by decide) (by decide) (fun v45 T45 h45 L45 X45 e45 q45 => ?_)
  obtain ⟨rfl, M45, s45⟩ := q45
  replace e45 : T45.heap = h36 := e45.trans s45
  have N45 := Fr.app N44 M45
  refine own_go (fun t k => XS.iload X45.here hx rfl (hb hby at_173) rfl  k) ?_
  have hc175 : (((((oo + (x0.toInt64)) + (x1.toInt64)) + (x2.toInt64)) - ((oo + (x0.toInt64)) + (x1.toInt64))).toInt32) = x2 := (own_dd _ _)
  refine own_go (fun t k => XS.icmpNo X45.here hx rfl (hb hby at_175) rfl (teq hc175).2 k) ?_
  refine own_go (fun t k => XS.aload X45.here hx rfl (hb hby at_178) rfl rfl  k) ?_
  refine own_callV X45 hx hZ (y := (⟨"com/example/hueline/hueline/model/Graph", "maxDegree", "()I"⟩ : MethodName)) (z := (⟨"com/example/hueline/hueline/model/Graph", "maxDegree", "()I"⟩ : MethodName)) (W := 0) (a := b23) (argsL := []) (rest := []) hown (hw _ (List.mem_of_getElem? (i := 73) rfl)) (hw _ (List.mem_of_getElem? (i := 74) rfl)) (notFace_of_selects (args := #[]) (mvT hZ (hw _ (List.mem_of_getElem? (i := 76) rfl)))) (hw _ (List.mem_of_getElem? (i := 76) rfl)) (hw _ (List.mem_of_getElem? (i := 75) rfl)) (by decide) (own_bk (rm_xd l Z a0 hw b23 (own_max (own_max (own_max (0 : Int32) (((oo + (x0.toInt64)) - oo).toInt32)) ((((oo + (x0.toInt64)) + (x1.toInt64)) - (oo + (x0.toInt64))).toInt32)) (((((oo + (x0.toInt64)) + (x1.toInt64)) + (x2.toInt64)) - ((oo + (x0.toInt64)) + (x1.toInt64))).toInt32)) h36 n0 P36_2) hZ (hw _ (List.mem_of_getElem? (i := 77) rfl)) (hw _ (List.mem_of_getElem? (i := 40) rfl)) (by decide) (by decide)) e45 F41 (g := (mkF m 180 #[.val (.long q1), .second, .val (.int p2), .val (.int p3), .val (.int p4), .val (.long oo), .second, .val (.int x0), .val (.int x1), .val (.int x2), .val (.ref b1), .val (.ref b7), .val (.ref b13), .val (.ref b23), .val (.int (own_max x0 (own_max x1 x2)))] [(.ref b23)])) rfl (by rw [hml]; rfl) (lenOf pd_7 rfl) rfl (by show 2 * 0 + _ ≤ _; exact Nat.le_of_eq rfl) (hb hby at_180) (by decide) (by decide) (fun v46 T46 h46 L46 X46 e46 q46 => ?_)
  obtain ⟨rfl, M46, s46⟩ := q46
  replace e46 : T46.heap = h36 := e46.trans s46
  have N46 := Fr.app N45 M46
  show own_Run p e below Φ (T46.setTop (mkF m 183 #[.val (.long q1), .second, .val (.int p2), .val (.int p3), .val (.int p4), .val (.long oo), .second, .val (.int x0), .val (.int x1), .val (.int x2), .val (.ref b1), .val (.ref b7), .val (.ref b13), .val (.ref b23), .val (.int (own_max x0 (own_max x1 x2)))] [(.int (own_max (own_max (own_max (0 : Int32) (((oo + (x0.toInt64)) - oo).toInt32)) ((((oo + (x0.toInt64)) + (x1.toInt64)) - (oo + (x0.toInt64))).toInt32)) (((((oo + (x0.toInt64)) + (x1.toInt64)) + (x2.toInt64)) - ((oo + (x0.toInt64)) + (x1.toInt64))).toInt32)))]))
  refine own_go (fun t k => XS.iload X46.here hx rfl (hb hby at_183) rfl  k) ?_
  have hc185 : (own_max (own_max (own_max (0 : Int32) (((oo + (x0.toInt64)) - oo).toInt32)) ((((oo + (x0.toInt64)) + (x1.toInt64)) - (oo + (x0.toInt64))).toInt32)) (((((oo + (x0.toInt64)) + (x1.toInt64)) + (x2.toInt64)) - ((oo + (x0.toInt64)) + (x1.toInt64))).toInt32)) = (own_max x0 (own_max x1 x2)) := (by rw [own_dd, own_dd, own_dd]; exact own_mx hx0 hx1 hx2)
  refine own_go (fun t k => XS.icmpNo X46.here hx rfl (hb hby at_185) rfl (teq hc185).2 k) ?_
  refine own_go (fun t k => XS.iconst X46.here hx rfl (hb hby at_188) k) ?_
  refine own_go (fun t k => XS.goto X46.here hx rfl (pc0 := 189) (pc' := 193) rfl (hb hby at_189) (by decide) (by decide) k) ?_
  subst hΦ
  exact own_retN X46 hx (t := .boolean) Bd.returns (by simp) hlk (hb hby at_193) e46 ⟨rfl, N46⟩ (by decide) (by decide)
set_option maxRecDepth 65536 in
set_option maxHeartbeats 40000000 in
theorem comes_1 {Post : Tables → Env → Array Value → State → Outcome → State → Prop} (hpost : ∀ tb e args s v u, (limb_1_1.after args s (.returned v) u = true ∧ limb_1_2.after args s (.returned v) u = true ∧ True) → FrameEnd s (.returned v) u (Jvm.fieldLocs frame_1_writes args s ++ Jvm.arrayLocs frame_1_arrays args s ++ Jvm.staticLocs frame_1_statics s) 24 128 → Post tb e args s (.returned v) u) :
    ArmFor flags0 classFile x code maxLocals ret World_1 tables_1 room_1 Calls_1 rest_1 Pre_1 Post := by
  intro l hfl _ _ p e ha hc hk s m args below hf hA hF happ hP
  obtain ⟨hcalls, hrest, hpre⟩ := hP
  obtain ⟨-, -, -, hnamed, -, -, -, hat⟩ := (Spec.applies_iff hf).mp happ
  obtain ⟨hg, hn⟩ := and_e (Cond.before_iff.mp (show (Jvm.Cond.and given_1 narrow_1).before args s = true from hpre))
  obtain ⟨hcount, hg⟩ := and_e hg
  obtain ⟨ha0, hg⟩ := and_e hg
  obtain ⟨ha1, hg⟩ := and_e hg
  obtain ⟨ha2, hg⟩ := and_e hg
  have ha3 := hg
  obtain ⟨w0, w1, w2, w3, rfl⟩ : ∃ w0 w1 w2 w3 : Value, args = #[w0, w1, w2, w3] := by
    have hs : args.size = 4 := by simpa [Cond.value, given_1] using hcount
    obtain ⟨L⟩ := args
    match L, hs with
    | [w0, w1, w2, w3], _ => exact ⟨w0, w1, w2, w3, rfl⟩
  have hw := fun d (hd : d ∈ tables_1) => atoms_spec (ws := Jvm.Cond.code x code maxLocals ret :: tables_1) hat d (List.mem_cons_of_mem _ hd)
  have hfit : Fit s := fun {y c} hc i hi => by
    obtain ⟨ha, rfl⟩ := Array.getElem?_eq_some_iff.mp hc
    have q := List.all_eq_true.mp ((Array.all_eq_true_iff_forall_mem.mp hF) _ (Array.getElem_mem ha)) i (List.mem_range.mpr hi)
    simpa [Array.getElem?_eq_getElem hi] using q
  obtain ⟨i0, ei0⟩ := isL_v ha0
  obtain rfl : w0 = (.long i0) := Option.some.inj ei0
  obtain ⟨i1, ei1⟩ := is_v ha1
  obtain rfl : w1 = (.int i1) := Option.some.inj ei1
  obtain ⟨i2, ei2⟩ := is_v ha2
  obtain rfl : w2 = (.int i2) := Option.some.inj ei2
  obtain ⟨i3, ei3⟩ := is_v ha3
  obtain rfl : w3 = (.int i3) := Option.some.inj ei3
  obtain ⟨hn0, hn⟩ := and_e hn
  obtain ⟨hn1, hn2⟩ := and_e hn
  obtain ⟨u1, eu1⟩ := exa_v hn0
  have A0 := Exa.start eu1 hn0
  have S0 := Sta.start eu1 (Or.inr ⟨hw _ (List.mem_of_getElem? (i := 10) rfl), hw _ (List.mem_of_getElem? (i := 11) rfl)⟩)
  have B0 := own_fldI eu1 hn1
  have C0 := own_fldI eu1 hn2
  obtain ⟨n, o, h1, h2, h3, _, L, rfl, ⟨rfl, N⟩, hq⟩ := rm_law l s _ hw i0 i1 i2 i3 u1 s.heap s.heap.size (Nat.le_refl _) (Old.start s) S0 A0 B0 C0 tables_1 p e ha hc hk s m _ below hf ((Spec.applies_iff_loose hf).mp happ).1 ⟨rfl, State.Warmed39.refl s, rfl⟩ trivial
  refine ⟨n, _, h1, h2, h3, hpost _ _ _ _ _ _ ⟨Cond.after_iff.mpr rfl, Cond.after_iff.mpr (eq_i res_at (Term.int_eval (1)) rfl), trivial⟩ ⟨hq.1, hq.2.1, (hq.2.2.sift fun y hy => Or.inr (N y hy)).mono (by decide) (by decide)⟩⟩
theorem main_1_1 : Claimed_1_1 := comes_1 fun _ _ _ _ _ _ h hF => ⟨h.1, hF⟩
theorem main_1_2 : Claimed_1_2 := comes_1 fun _ _ _ _ _ _ h hF => ⟨h.2.1, hF⟩
end Jvm.Pilot.@@N@@
namespace Jvm.Pilot.@@N@@
open Jvm Jvm.ClassFile Sem Op Lib Jvm.Free Jvm.Stand Jvm.Pilot.@@N@@.Jvm.D
/-! MADE BY PROGRAM (witnessworld.py) out of the Statement's table words and the real class files: 14 classes; the members and pool entries that the words name. The judged class is class 1, her method 1. -/
namespace start1
open Jvm.ClassFile
def u (s : String) : CpInfo := .utf8 (stringToUtf16 s)
/-- a pool by its gaps: so many unusable entries, then the entry; so many at the end -/
def gap : Nat → List CpInfo → List CpInfo
  | 0, r => r
  | n + 1, r => .unusable :: gap n r
def poolList (es : List (Nat × CpInfo)) (last : Nat) : List CpInfo := es.foldr (fun e r => gap e.1 (e.2 :: r)) (gap last [])
def pool (es : List (Nat × CpInfo)) (last : Nat) : Array CpInfo := ⟨poolList es last⟩
def fileOf (pool : Array CpInfo) (this : Nat) (attrs : Array Attribute := #[]) (ms : Array MethodInfo := #[]) (fl : Nat := 33) (sup : Nat := 0) (ifs : Array Nat := #[]) (fds : Array FieldInfo := #[]) : ClassFile where
  minorVersion := 0
  majorVersion := 65
  constantPool := pool
  accessFlags := fl
  thisClass := this
  superClass := sup
  interfaces := ifs
  fields := fds
  methods := ms
  attributes := attrs
def plain (name : String) (sup : Option ClassId) : Class where
  name := name
  kind := .ordinary
  loader := none
  accessFlags := 33
  super := sup
  interfaces := #[]
  cf := none
  fields := #[]
  methods := #[]
  instanceTypes := #[]
  staticTypes := #[]
  resolved := #[]
  callSites := []
  init := .initialized
  statics := none
  mirror := none

def pool0 : Array CpInfo := pool [(5, u "<init>"), (0, u "()V"), (1, .class_ 10), (1, u "java/lang/Object")] 113

def k0c0 : Code := { maxStack := 0, maxLocals := 1, code := object_method_1_code, exceptionTable := #[], attributes := #[] }
def k0m0 : Method := { name := "<init>", desc := "()V", sig := { parameters := [], returnType := none }, accessFlags := 1, code := some k0c0 }
/-- java/lang/Object -/
def k0 : Class := { plain "java/lang/Object" none with
  accessFlags := 33
  interfaces := #[]
  cf := some (fileOf pool0 8 #[] #[{ accessFlags := 1, nameIndex := 5, descriptorIndex := 6, attributes := #[] }] 33 0 #[] #[])
  fields := #[]
  methods := #[k0m0]
  instanceTypes := #[]
  staticTypes := #[]
  resolved := Array.replicate 124 none
  statics := none }

def pool1 : Array CpInfo := pool [(2, .class_ 4), (1, u "java/lang/Object"), (0, u "<init>"), (0, u "()V"), (0, .long 4294967295), (1, .integer 1073741823), (0, .class_ 11), (0, u "com/example/hueline/hueline/model/BigIntArray"), (0, .methodref 10 13), (0, .nameAndType 5 14), (0, u "(J)V"), (0, .class_ 16), (0, u "com/example/hueline/hueline/model/Graph"), (0, .methodref 15 18), (0, .nameAndType 5 19), (0, u "([JLcom/example/hueline/hueline/model/BigIntArray;Lcom/example/hueline/hueline/model/BigIntArray;[JLcom/example/hueline/hueline/model/BigIntArray;)V"), (0, .methodref 21 22), (0, .class_ 23), (0, .nameAndType 24 25), (0, u "java/lang/Math"), (0, u "max"), (0, u "(II)I"), (0, .methodref 15 27), (0, .nameAndType 28 29), (0, u "vertexCount"), (0, u "()I"), (0, .methodref 15 31), (0, .nameAndType 32 33), (0, u "degree"), (0, u "(I)I"), (0, .methodref 15 35), (0, .nameAndType 36 29), (0, u "maxDegree"), (0, .class_ 38), (0, u "com/example/hueline/hueline/model/GraphDegreePinLaw"), (2, u "law"), (0, u "(JIII)Z")] 5

def k1m0 : Method := { name := "<init>", desc := "()V", sig := { parameters := [], returnType := none }, accessFlags := 1, code := none }
def k1c1 : Code := { maxStack := 7, maxLocals := 15, code := code, exceptionTable := #[], attributes := #[] }
def k1m1 : Method := { name := "law", desc := "(JIII)Z", sig := { parameters := [.long, .int, .int, .int], returnType := some .boolean }, accessFlags := 9, code := some k1c1 }
/-- com/example/hueline/hueline/model/GraphDegreePinLaw -/
def k1 : Class := { plain "com/example/hueline/hueline/model/GraphDegreePinLaw" (some 0) with
  accessFlags := 49
  interfaces := #[]
  cf := some (fileOf pool1 37 #[] #[{ accessFlags := 1, nameIndex := 5, descriptorIndex := 6, attributes := #[] }, { accessFlags := 9, nameIndex := 41, descriptorIndex := 42, attributes := #[] }] 49 2 #[] #[])
  fields := #[]
  methods := #[k1m0, k1m1]
  instanceTypes := #[]
  staticTypes := #[]
  resolved := Array.replicate 48 none
  statics := none }

def pool2 : Array CpInfo := pool [(1, .fieldref 2 3), (0, .class_ 4), (0, .nameAndType 5 6), (0, u "com/example/hueline/hueline/model/Pages"), (0, u "STANDARD"), (0, u "Lcom/example/hueline/hueline/model/Pages;"), (0, .methodref 8 9), (0, .class_ 10), (0, .nameAndType 11 12), (0, u "com/example/hueline/hueline/model/BigIntArray"), (0, u "<init>"), (0, u "(JLcom/example/hueline/hueline/model/Pages;)V"), (0, .methodref 14 15), (0, .class_ 16), (0, .nameAndType 11 17), (0, u "java/lang/Object"), (0, u "()V"), (0, .fieldref 8 19), (0, .nameAndType 20 6), (0, u "layout"), (0, .methodref 2 22), (0, .nameAndType 23 24), (0, u "count"), (0, u "(J)I"), (0, .class_ 26), (0, u "[I"), (0, .fieldref 8 28), (0, .nameAndType 29 30), (0, u "pages"), (0, u "[[I"), (0, .fieldref 8 32), (0, .nameAndType 33 34), (0, u "length"), (0, u "J"), (3, .fieldref 8 39), (0, .nameAndType 40 26), (0, u "flat"), (50, u "(J)V")] 37

def k2c0 : Code := { maxStack := 4, maxLocals := 3, code := prog_36_method_1_code, exceptionTable := #[], attributes := #[] }
def k2m0 : Method := { name := "<init>", desc := "(J)V", sig := { parameters := [.long], returnType := none }, accessFlags := 1, code := some k2c0 }
def k2c1 : Code := { maxStack := 6, maxLocals := 5, code := prog_36_method_2_code, exceptionTable := #[], attributes := #[] }
def k2m1 : Method := { name := "<init>", desc := "(JLcom/example/hueline/hueline/model/Pages;)V", sig := { parameters := [.long, (.object "com/example/hueline/hueline/model/Pages")], returnType := none }, accessFlags := 0, code := some k2c1 }
/-- com/example/hueline/hueline/model/BigIntArray -/
def k2 : Class := { plain "com/example/hueline/hueline/model/BigIntArray" (some 0) with
  accessFlags := 49
  interfaces := #[]
  cf := some (fileOf pool2 8 #[] #[{ accessFlags := 1, nameIndex := 11, descriptorIndex := 91, attributes := #[] }, { accessFlags := 0, nameIndex := 11, descriptorIndex := 12, attributes := #[] }] 49 14 #[] #[{ accessFlags := 18, nameIndex := 20, descriptorIndex := 6, attributes := #[] }, { accessFlags := 2, nameIndex := 29, descriptorIndex := 30, attributes := #[] }, { accessFlags := 2, nameIndex := 40, descriptorIndex := 26, attributes := #[] }, { accessFlags := 2, nameIndex := 33, descriptorIndex := 34, attributes := #[] }])
  fields := #[{ name := "layout", type := (.object "com/example/hueline/hueline/model/Pages"), accessFlags := 18, slot := 0, constantValue := 0 }, { name := "pages", type := (.array (.array .int)), accessFlags := 2, slot := 1, constantValue := 0 }, { name := "flat", type := (.array .int), accessFlags := 2, slot := 2, constantValue := 0 }, { name := "length", type := .long, accessFlags := 2, slot := 3, constantValue := 0 }]
  methods := #[k2m0, k2m1]
  instanceTypes := #[(.object "com/example/hueline/hueline/model/Pages"), (.array (.array .int)), (.array .int), .long]
  staticTypes := #[]
  resolved := Array.replicate 129 none
  statics := none }

def pool3 : Array CpInfo := pool [(2, .class_ 4), (1, u "java/lang/Object"), (2, .fieldref 8 9), (0, .class_ 10), (0, .nameAndType 11 12), (0, u "com/example/hueline/hueline/model/Pages"), (0, u "shift"), (0, u "I"), (2, u "length"), (0, .fieldref 8 17), (0, .nameAndType 18 12), (0, u "mask"), (24, u "(J)I"), (10, .class_ 56), (1, u "com/example/hueline/hueline/model/Pages$PagePart"), (4, .long 2147483639), (11, u "count"), (8, u "STANDARD"), (0, u "Lcom/example/hueline/hueline/model/Pages;"), (0, u "LARGEST_SHIFT")] 31

def k3c0 : Code := { maxStack := 4, maxLocals := 5, code := prog_46_method_6_code, exceptionTable := #[], attributes := #[] }
def k3m0 : Method := { name := "count", desc := "(J)I", sig := { parameters := [.long], returnType := some .int }, accessFlags := 0, code := some k3c0 }
/-- com/example/hueline/hueline/model/Pages -/
def k3 : Class := { plain "com/example/hueline/hueline/model/Pages" (some 0) with
  accessFlags := 48
  interfaces := #[]
  cf := some (fileOf pool3 8 #[.nestMembers #[54]] #[{ accessFlags := 0, nameIndex := 73, descriptorIndex := 43, attributes := #[] }] 48 2 #[] #[{ accessFlags := 26, nameIndex := 84, descriptorIndex := 12, attributes := #[] }, { accessFlags := 24, nameIndex := 82, descriptorIndex := 83, attributes := #[] }, { accessFlags := 16, nameIndex := 15, descriptorIndex := 12, attributes := #[] }, { accessFlags := 18, nameIndex := 11, descriptorIndex := 12, attributes := #[] }, { accessFlags := 18, nameIndex := 18, descriptorIndex := 12, attributes := #[] }])
  fields := #[{ name := "LARGEST_SHIFT", type := .int, accessFlags := 26, slot := 0, constantValue := 0 }, { name := "STANDARD", type := (.object "com/example/hueline/hueline/model/Pages"), accessFlags := 24, slot := 1, constantValue := 0 }, { name := "length", type := .int, accessFlags := 16, slot := 0, constantValue := 0 }, { name := "shift", type := .int, accessFlags := 18, slot := 1, constantValue := 0 }, { name := "mask", type := .int, accessFlags := 18, slot := 2, constantValue := 0 }]
  methods := #[k3m0]
  instanceTypes := #[.int, .int, .int]
  staticTypes := #[.int, (.object "com/example/hueline/hueline/model/Pages")]
  resolved := Array.replicate 116 none
  statics := some 0 }

def pool4 : Array CpInfo := pool [(1, .methodref 2 3), (0, .class_ 4), (0, .nameAndType 5 6), (0, u "java/lang/Object"), (0, u "<init>"), (0, u "()V"), (0, .fieldref 8 9), (0, .class_ 10), (0, .nameAndType 11 12), (0, u "com/example/hueline/hueline/model/Graph"), (0, u "ids"), (0, u "[J"), (0, .fieldref 8 14), (0, .nameAndType 15 16), (0, u "sources"), (0, u "Lcom/example/hueline/hueline/model/BigIntArray;"), (0, .fieldref 8 18), (0, .nameAndType 19 16), (0, u "targets"), (0, .fieldref 8 21), (0, .nameAndType 22 12), (0, u "offsets"), (0, .fieldref 8 24), (0, .nameAndType 25 16), (0, u "incidences"), (0, .methodref 8 27), (0, .nameAndType 28 29), (0, u "degree"), (0, u "(I)I"), (0, .methodref 31 32), (0, .class_ 33), (0, .nameAndType 34 35), (0, u "java/lang/Math"), (0, u "max"), (0, u "(II)I"), (0, .fieldref 8 37), (0, .nameAndType 38 39), (0, u "maxDegree"), (0, u "I"), (10, u "MAX_VERTICES"), (2, u "([JLcom/example/hueline/hueline/model/BigIntArray;Lcom/example/hueline/hueline/model/BigIntArray;[JLcom/example/hueline/hueline/model/BigIntArray;)V"), (4, u "vertexCount"), (0, u "()I")] 9

def k4c0 : Code := { maxStack := 3, maxLocals := 8, code := prog_41_method_1_code, exceptionTable := #[], attributes := #[] }
def k4m0 : Method := { name := "<init>", desc := "([JLcom/example/hueline/hueline/model/BigIntArray;Lcom/example/hueline/hueline/model/BigIntArray;[JLcom/example/hueline/hueline/model/BigIntArray;)V", sig := { parameters := [(.array .long), (.object "com/example/hueline/hueline/model/BigIntArray"), (.object "com/example/hueline/hueline/model/BigIntArray"), (.array .long), (.object "com/example/hueline/hueline/model/BigIntArray")], returnType := none }, accessFlags := 0, code := some k4c0 }
def k4c1 : Code := { maxStack := 1, maxLocals := 1, code := prog_41_method_2_code, exceptionTable := #[], attributes := #[] }
def k4m1 : Method := { name := "vertexCount", desc := "()I", sig := { parameters := [], returnType := some .int }, accessFlags := 1, code := some k4c1 }
def k4c2 : Code := { maxStack := 4, maxLocals := 2, code := prog_41_method_8_code, exceptionTable := #[], attributes := #[] }
def k4m2 : Method := { name := "degree", desc := "(I)I", sig := { parameters := [.int], returnType := some .int }, accessFlags := 1, code := some k4c2 }
def k4c3 : Code := { maxStack := 1, maxLocals := 1, code := prog_41_method_9_code, exceptionTable := #[], attributes := #[] }
def k4m3 : Method := { name := "maxDegree", desc := "()I", sig := { parameters := [], returnType := some .int }, accessFlags := 1, code := some k4c3 }
/-- com/example/hueline/hueline/model/Graph -/
def k4 : Class := { plain "com/example/hueline/hueline/model/Graph" (some 0) with
  accessFlags := 49
  interfaces := #[]
  cf := some (fileOf pool4 8 #[] #[{ accessFlags := 0, nameIndex := 5, descriptorIndex := 53, attributes := #[] }, { accessFlags := 1, nameIndex := 58, descriptorIndex := 59, attributes := #[] }, { accessFlags := 1, nameIndex := 28, descriptorIndex := 29, attributes := #[] }, { accessFlags := 1, nameIndex := 38, descriptorIndex := 59, attributes := #[] }] 49 2 #[] #[{ accessFlags := 25, nameIndex := 50, descriptorIndex := 39, attributes := #[] }, { accessFlags := 18, nameIndex := 11, descriptorIndex := 12, attributes := #[] }, { accessFlags := 18, nameIndex := 15, descriptorIndex := 16, attributes := #[] }, { accessFlags := 18, nameIndex := 19, descriptorIndex := 16, attributes := #[] }, { accessFlags := 18, nameIndex := 22, descriptorIndex := 12, attributes := #[] }, { accessFlags := 18, nameIndex := 25, descriptorIndex := 16, attributes := #[] }, { accessFlags := 18, nameIndex := 38, descriptorIndex := 39, attributes := #[] }])
  fields := #[{ name := "MAX_VERTICES", type := .int, accessFlags := 25, slot := 0, constantValue := 0 }, { name := "ids", type := (.array .long), accessFlags := 18, slot := 0, constantValue := 0 }, { name := "sources", type := (.object "com/example/hueline/hueline/model/BigIntArray"), accessFlags := 18, slot := 1, constantValue := 0 }, { name := "targets", type := (.object "com/example/hueline/hueline/model/BigIntArray"), accessFlags := 18, slot := 2, constantValue := 0 }, { name := "offsets", type := (.array .long), accessFlags := 18, slot := 3, constantValue := 0 }, { name := "incidences", type := (.object "com/example/hueline/hueline/model/BigIntArray"), accessFlags := 18, slot := 4, constantValue := 0 }, { name := "maxDegree", type := .int, accessFlags := 18, slot := 5, constantValue := 0 }]
  methods := #[k4m0, k4m1, k4m2, k4m3]
  instanceTypes := #[(.array .long), (.object "com/example/hueline/hueline/model/BigIntArray"), (.object "com/example/hueline/hueline/model/BigIntArray"), (.array .long), (.object "com/example/hueline/hueline/model/BigIntArray"), .int]
  staticTypes := #[.int]
  resolved := Array.replicate 69 none
  statics := none }

def pool5 : Array CpInfo := pool [(1, .class_ 2), (0, u "java/lang/Math"), (1, .class_ 6), (1, u "java/lang/Object"), (0, u "<init>"), (0, u "()V"), (89, .class_ 100), (1, u "java/lang/Math$RandomNumberGeneratorHolder"), (71, u "negativeZeroFloatBits"), (0, u "J"), (2, u "negativeZeroDoubleBits"), (21, u "max"), (46, u "$assertionsDisabled"), (0, u "Z"), (88, u "(II)I"), (2, u "twoToTheDoubleScaleDown"), (0, u "D"), (4, u "twoToTheDoubleScaleUp"), (9, u "E"), (3, u "PI"), (2, u "TAU"), (2, u "DEGREES_TO_RADIANS"), (0, u "RADIANS_TO_DEGREES")] 94

def k5m0 : Method := { name := "<init>", desc := "()V", sig := { parameters := [], returnType := none }, accessFlags := 2, code := none }
def k5c1 : Code := { maxStack := 2, maxLocals := 2, code := jdk_29_method_65_code, exceptionTable := #[], attributes := #[] }
def k5m1 : Method := { name := "max", desc := "(II)I", sig := { parameters := [.int, .int], returnType := some .int }, accessFlags := 9, code := some k5c1 }
/-- java/lang/Math -/
def k5 : Class := { plain "java/lang/Math" (some 0) with
  accessFlags := 49
  interfaces := #[]
  cf := some (fileOf pool5 1 #[.nestMembers #[98]] #[{ accessFlags := 2, nameIndex := 7, descriptorIndex := 8, attributes := #[] }, { accessFlags := 9, nameIndex := 198, descriptorIndex := 335, attributes := #[] }] 49 4 #[] #[{ accessFlags := 25, nameIndex := 354, descriptorIndex := 339, attributes := #[] }, { accessFlags := 25, nameIndex := 358, descriptorIndex := 339, attributes := #[] }, { accessFlags := 25, nameIndex := 361, descriptorIndex := 339, attributes := #[] }, { accessFlags := 26, nameIndex := 364, descriptorIndex := 339, attributes := #[] }, { accessFlags := 26, nameIndex := 365, descriptorIndex := 339, attributes := #[] }, { accessFlags := 26, nameIndex := 172, descriptorIndex := 173, attributes := #[] }, { accessFlags := 26, nameIndex := 176, descriptorIndex := 173, attributes := #[] }, { accessFlags := 8, nameIndex := 344, descriptorIndex := 339, attributes := #[] }, { accessFlags := 8, nameIndex := 338, descriptorIndex := 339, attributes := #[] }, { accessFlags := 4120, nameIndex := 245, descriptorIndex := 246, attributes := #[] }])
  fields := #[{ name := "E", type := .double, accessFlags := 25, slot := 0, constantValue := 0 }, { name := "PI", type := .double, accessFlags := 25, slot := 1, constantValue := 0 }, { name := "TAU", type := .double, accessFlags := 25, slot := 2, constantValue := 0 }, { name := "DEGREES_TO_RADIANS", type := .double, accessFlags := 26, slot := 3, constantValue := 0 }, { name := "RADIANS_TO_DEGREES", type := .double, accessFlags := 26, slot := 4, constantValue := 0 }, { name := "negativeZeroFloatBits", type := .long, accessFlags := 26, slot := 5, constantValue := 0 }, { name := "negativeZeroDoubleBits", type := .long, accessFlags := 26, slot := 6, constantValue := 0 }, { name := "twoToTheDoubleScaleUp", type := .double, accessFlags := 8, slot := 7, constantValue := 0 }, { name := "twoToTheDoubleScaleDown", type := .double, accessFlags := 8, slot := 8, constantValue := 0 }, { name := "$assertionsDisabled", type := .boolean, accessFlags := 4120, slot := 9, constantValue := 0 }]
  methods := #[k5m0, k5m1]
  instanceTypes := #[]
  staticTypes := #[.double, .double, .double, .double, .double, .long, .long, .double, .double, .boolean]
  resolved := Array.replicate 460 none
  statics := none }

def pool6 : Array CpInfo := pool [(1, u "java/lang/Cloneable"), (0, .class_ 1), (0, u "java/lang/Object"), (0, .class_ 3)] 3

/-- java/lang/Cloneable -/
def k6 : Class := { plain "java/lang/Cloneable" (some 0) with
  accessFlags := 1537
  interfaces := #[]
  cf := some (fileOf pool6 2 #[] #[] 1537 4 #[] #[])
  fields := #[]
  methods := #[]
  instanceTypes := #[]
  staticTypes := #[]
  resolved := Array.replicate 8 none
  statics := none }

def pool7 : Array CpInfo := pool [(1, u "java/io/Serializable"), (0, .class_ 1), (0, u "java/lang/Object"), (0, .class_ 3)] 3

/-- java/io/Serializable -/
def k7 : Class := { plain "java/io/Serializable" (some 0) with
  accessFlags := 1537
  interfaces := #[]
  cf := some (fileOf pool7 2 #[] #[] 1537 4 #[] #[])
  fields := #[]
  methods := #[]
  instanceTypes := #[]
  staticTypes := #[]
  resolved := Array.replicate 8 none
  statics := none }

/-- the primitive byte -/
def k8 : Class := { plain "byte" none with kind := .primitive 'B', accessFlags := 0x411 }
/-- [B -/
def k9 : Class := { plain "[B" (some 0) with kind := .array 8 .byte, interfaces := #[6, 7], accessFlags := 1041 }

/-- the primitive int -/
def k10 : Class := { plain "int" none with kind := .primitive 'I', accessFlags := 0x411 }
/-- [I -/
def k11 : Class := { plain "[I" (some 0) with kind := .array 10 .int, interfaces := #[6, 7], accessFlags := 1041 }

/-- the primitive long -/
def k12 : Class := { plain "long" none with kind := .primitive 'J', accessFlags := 0x411 }
/-- [J -/
def k13 : Class := { plain "[J" (some 0) with kind := .array 12 .long, interfaces := #[6, 7], accessFlags := 1041 }

def heap : Heap := #[{ cls := 3, slots := #[.int 0, .ref 1], vm := .statics 3 },
  { cls := 3, slots := #[.int 1073741824, .int 30, .int 1073741823], vm := .none }]
/-- [[I -/
def k14 : Class := { plain "[[I" (some 0) with kind := .array 11 (.array .int), interfaces := #[6, 7], accessFlags := 1041 }
def classes : Array Class := #[k0, k1, k2, k3, k4, k5, k6, k7, k8, k9, k10, k11, k12, k13, k14]
def interned : List (Array UInt16 × Addr) := []
def slotsUsed : Nat := 5
def theMethod : MethodId := ⟨1, 1⟩
def args0 : Array Value := #[.long 5, .int 7, .int 9, .int 3]
def aboutOver (below : List Frame) : State where
  vm := { classes := classes, interned := interned.toArray }
  heap := heap
  slotsUsed := slotsUsed
  threads := #[{ frames := .invoking theMethod args0 :: below }]
def below0 : List Frame := [.native { method := ⟨0, 0⟩, args := #[] }]
def about1 : State := aboutOver below0
def p0 : Program := .bare "" "" ""
def e0 : Env := launch0.env 0 0 0
theorem w_frames : about1.frames = Frame.invoking theMethod args0 :: below0 := rfl
set_option maxRecDepth 65536 in
theorem w_args : argsFit about1.vm theMethod args0 = true := by decide +kernel
set_option maxRecDepth 65536 in
theorem w_heap : heapFits about1 = true := by decide +kernel
set_option maxRecDepth 65536 in
theorem w_runnable : about1.curStatus? = some .runnable := by decide +kernel
set_option maxRecDepth 65536 in
theorem w_alone : about1.alone = true := by decide +kernel
set_option maxRecDepth 65536 in
theorem w_named : about1.methodNamed? x = some theMethod := by decide +kernel
set_option maxRecDepth 65536 in
theorem w_hears : about1.hears theMethod below0 = true := by decide +kernel
set_option maxRecDepth 65536 in
theorem w_ripe : about1.ripe theMethod args0 below0 = true := by decide +kernel
theorem w_running : about1.status = .running := rfl
set_option maxRecDepth 65536 in
theorem w_room : about1.hasRoom e0.platform room_1 = true :=
  launch0.hasRoom_least _ room_1 (by decide +kernel) (by decide +kernel) (by decide +kernel) (by decide +kernel) (by decide +kernel) (by decide +kernel)
theorem allAtoms_all (ts : List Jvm.Cond) (a : Array Jvm.Value) (st : Jvm.State) : (allAtoms ts).before a st = ts.all (fun c => c.before a st) := by
  induction ts with
  | nil => rfl
  | cons c t ih =>
    show (Jvm.Cond.and c (allAtoms t)).before a st = _
    rw [Jvm.Cond.before_and, ih, List.all_cons]
def words1 : List Jvm.Cond := Jvm.Cond.code x code maxLocals ret :: tables_1
/-- a 'code' word, met by the world's own term for the bytes: nothing is compared byte by byte -/
theorem code_word {y : MethodName} {bytes : ByteArray} {mx : Nat} {rt : Option FieldType} {a : Array Value} {s : State} {m : MethodId} {meth : Method} {c : Code} (h1 : s.methodNamed? y = some m) (h2 : s.vm.method? m = some meth) (h3 : meth.code = some c) (h4 : c.code = bytes)
    (h5 : (c.maxLocals == mx && c.exceptionTable.isEmpty && decide (c.maxStack ≤ mostOperands) && decide (meth.sig.returnType = rt) && !meth.locks && decide (parseMethodDescriptor y.desc = some meth.sig)) = true) : (Jvm.Cond.code y bytes mx rt).before a s = true := by
  simp only [Bool.and_eq_true, beq_iff_eq, Bool.not_eq_true', decide_eq_true_eq] at h5
  obtain ⟨⟨⟨⟨⟨g1, g2⟩, g3⟩, g4⟩, g5⟩, g6⟩ := h5
  simp [Cond.before, Cond.holds, Cond.value, h1, h2, h3, h4, g1, g2, g3, g4, g5, g6]
def isCode : Jvm.Cond → Bool
  | .code _ _ _ _ => true
  | _ => false
theorem all_split {L : List Jvm.Cond} {P : Jvm.Cond → Bool} (h1 : L.all (fun c => isCode c || P c) = true) (h2 : ∀ c ∈ L.filter isCode, P c = true) : L.all P = true := by
  refine List.all_eq_true.mpr fun c hc => ?_
  have h := List.all_eq_true.mp h1 c hc
  rcases Bool.eq_false_or_eq_true (isCode c) with hi | hi
  · exact h2 c (List.mem_filter.mpr ⟨hc, hi⟩)
  · simpa [hi] using h
set_option maxRecDepth 65536 in
theorem w_c0 : (Jvm.Cond.code x code maxLocals ret).before args0 about1 = true := code_word (m := ⟨1, 1⟩) (meth := k1m1) (c := k1c1) (by decide +kernel) rfl rfl rfl (by decide +kernel)
set_option maxRecDepth 65536 in
theorem w_c1 : (Jvm.Cond.code ({ cls := "com/example/hueline/hueline/model/BigIntArray", name := "<init>", desc := "(J)V" } : Jvm.MethodName) prog_36_method_1_code (3 : Nat) (Option.none : Option Jvm.ClassFile.FieldType)).before args0 about1 = true := code_word (m := ⟨2, 0⟩) (meth := k2m0) (c := k2c0) (by decide +kernel) rfl rfl rfl (by decide +kernel)
set_option maxRecDepth 65536 in
theorem w_c2 : (Jvm.Cond.code ({ cls := "com/example/hueline/hueline/model/BigIntArray", name := "<init>", desc := "(JLcom/example/hueline/hueline/model/Pages;)V" } : Jvm.MethodName) prog_36_method_2_code (5 : Nat) (Option.none : Option Jvm.ClassFile.FieldType)).before args0 about1 = true := code_word (m := ⟨2, 1⟩) (meth := k2m1) (c := k2c1) (by decide +kernel) rfl rfl rfl (by decide +kernel)
set_option maxRecDepth 65536 in
theorem w_c3 : (Jvm.Cond.code ({ cls := "java/lang/Object", name := "<init>", desc := "()V" } : Jvm.MethodName) object_method_1_code (1 : Nat) (Option.none : Option Jvm.ClassFile.FieldType)).before args0 about1 = true := code_word (m := ⟨0, 0⟩) (meth := k0m0) (c := k0c0) (by decide +kernel) rfl rfl rfl (by decide +kernel)
set_option maxRecDepth 65536 in
theorem w_c4 : (Jvm.Cond.code ({ cls := "com/example/hueline/hueline/model/Pages", name := "count", desc := "(J)I" } : Jvm.MethodName) prog_46_method_6_code (5 : Nat) (Option.some Jvm.ClassFile.FieldType.int)).before args0 about1 = true := code_word (m := ⟨3, 0⟩) (meth := k3m0) (c := k3c0) (by decide +kernel) rfl rfl rfl (by decide +kernel)
set_option maxRecDepth 65536 in
theorem w_c5 : (Jvm.Cond.code ({ cls := "com/example/hueline/hueline/model/Graph", name := "<init>", desc := "([JLcom/example/hueline/hueline/model/BigIntArray;Lcom/example/hueline/hueline/model/BigIntArray;[JLcom/example/hueline/hueline/model/BigIntArray;)V" } : Jvm.MethodName) prog_41_method_1_code (8 : Nat) (Option.none : Option Jvm.ClassFile.FieldType)).before args0 about1 = true := code_word (m := ⟨4, 0⟩) (meth := k4m0) (c := k4c0) (by decide +kernel) rfl rfl rfl (by decide +kernel)
set_option maxRecDepth 65536 in
theorem w_c6 : (Jvm.Cond.code ({ cls := "com/example/hueline/hueline/model/Graph", name := "degree", desc := "(I)I" } : Jvm.MethodName) prog_41_method_8_code (2 : Nat) (Option.some Jvm.ClassFile.FieldType.int)).before args0 about1 = true := code_word (m := ⟨4, 2⟩) (meth := k4m2) (c := k4c2) (by decide +kernel) rfl rfl rfl (by decide +kernel)
set_option maxRecDepth 65536 in
theorem w_c7 : (Jvm.Cond.code ({ cls := "java/lang/Math", name := "max", desc := "(II)I" } : Jvm.MethodName) jdk_29_method_65_code (2 : Nat) (Option.some Jvm.ClassFile.FieldType.int)).before args0 about1 = true := code_word (m := ⟨5, 1⟩) (meth := k5m1) (c := k5c1) (by decide +kernel) rfl rfl rfl (by decide +kernel)
set_option maxRecDepth 65536 in
theorem w_c8 : (Jvm.Cond.code ({ cls := "com/example/hueline/hueline/model/Graph", name := "vertexCount", desc := "()I" } : Jvm.MethodName) prog_41_method_2_code (1 : Nat) (Option.some Jvm.ClassFile.FieldType.int)).before args0 about1 = true := code_word (m := ⟨4, 1⟩) (meth := k4m1) (c := k4c1) (by decide +kernel) rfl rfl rfl (by decide +kernel)
set_option maxRecDepth 65536 in
theorem w_c9 : (Jvm.Cond.code ({ cls := "com/example/hueline/hueline/model/Graph", name := "maxDegree", desc := "()I" } : Jvm.MethodName) prog_41_method_9_code (1 : Nat) (Option.some Jvm.ClassFile.FieldType.int)).before args0 about1 = true := code_word (m := ⟨4, 3⟩) (meth := k4m3) (c := k4c3) (by decide +kernel) rfl rfl rfl (by decide +kernel)
def codes1 : List Jvm.Cond := [Jvm.Cond.code x code maxLocals ret, Jvm.Cond.code ({ cls := "com/example/hueline/hueline/model/BigIntArray", name := "<init>", desc := "(J)V" } : Jvm.MethodName) prog_36_method_1_code (3 : Nat) (Option.none : Option Jvm.ClassFile.FieldType), Jvm.Cond.code ({ cls := "com/example/hueline/hueline/model/BigIntArray", name := "<init>", desc := "(JLcom/example/hueline/hueline/model/Pages;)V" } : Jvm.MethodName) prog_36_method_2_code (5 : Nat) (Option.none : Option Jvm.ClassFile.FieldType), Jvm.Cond.code ({ cls := "java/lang/Object", name := "<init>", desc := "()V" } : Jvm.MethodName) object_method_1_code (1 : Nat) (Option.none : Option Jvm.ClassFile.FieldType), Jvm.Cond.code ({ cls := "com/example/hueline/hueline/model/Pages", name := "count", desc := "(J)I" } : Jvm.MethodName) prog_46_method_6_code (5 : Nat) (Option.some Jvm.ClassFile.FieldType.int), Jvm.Cond.code ({ cls := "com/example/hueline/hueline/model/Graph", name := "<init>", desc := "([JLcom/example/hueline/hueline/model/BigIntArray;Lcom/example/hueline/hueline/model/BigIntArray;[JLcom/example/hueline/hueline/model/BigIntArray;)V" } : Jvm.MethodName) prog_41_method_1_code (8 : Nat) (Option.none : Option Jvm.ClassFile.FieldType), Jvm.Cond.code ({ cls := "com/example/hueline/hueline/model/Graph", name := "degree", desc := "(I)I" } : Jvm.MethodName) prog_41_method_8_code (2 : Nat) (Option.some Jvm.ClassFile.FieldType.int), Jvm.Cond.code ({ cls := "java/lang/Math", name := "max", desc := "(II)I" } : Jvm.MethodName) jdk_29_method_65_code (2 : Nat) (Option.some Jvm.ClassFile.FieldType.int), Jvm.Cond.code ({ cls := "com/example/hueline/hueline/model/Graph", name := "vertexCount", desc := "()I" } : Jvm.MethodName) prog_41_method_2_code (1 : Nat) (Option.some Jvm.ClassFile.FieldType.int), Jvm.Cond.code ({ cls := "com/example/hueline/hueline/model/Graph", name := "maxDegree", desc := "()I" } : Jvm.MethodName) prog_41_method_9_code (1 : Nat) (Option.some Jvm.ClassFile.FieldType.int)]
set_option maxRecDepth 65536 in
theorem codes_eq : words1.filter isCode = codes1 := rfl
theorem w_codes : ∀ c ∈ words1.filter isCode, c.before args0 about1 = true := by
  rw [codes_eq]
  intro c hc
  simp only [codes1, List.mem_cons, List.not_mem_nil, or_false] at hc
  rcases hc with rfl | rfl | rfl | rfl | rfl | rfl | rfl | rfl | rfl | rfl
  · exact w_c0
  · exact w_c1
  · exact w_c2
  · exact w_c3
  · exact w_c4
  · exact w_c5
  · exact w_c6
  · exact w_c7
  · exact w_c8
  · exact w_c9
set_option maxRecDepth 65536 in
theorem w_t1 : (words1.take 24).all (fun c => isCode c || c.before args0 about1) = true := by decide +kernel
set_option maxRecDepth 65536 in
theorem w_t2 : ((words1.drop 24).take 24).all (fun c => isCode c || c.before args0 about1) = true := by decide +kernel
set_option maxRecDepth 65536 in
theorem w_t3 : (((words1.drop 24).drop 24).take 24).all (fun c => isCode c || c.before args0 about1) = true := by decide +kernel
set_option maxRecDepth 65536 in
theorem w_t4 : (((words1.drop 24).drop 24).drop 24).all (fun c => isCode c || c.before args0 about1) = true := by decide +kernel
theorem w_tables : (allAtoms (Jvm.Cond.code x code maxLocals ret :: tables_1)).before args0 about1 = true := by
  rw [allAtoms_all]
  show words1.all (fun c => c.before args0 about1) = true
  refine all_split ?_ w_codes
  rw [← List.take_append_drop 24 words1, List.all_append, w_t1, ← List.take_append_drop 24 (words1.drop 24), List.all_append, w_t2, ← List.take_append_drop 24 ((words1.drop 24).drop 24), List.all_append, w_t3, w_t4]
  rfl
set_option maxRecDepth 65536 in
theorem w_case : (Jvm.Cond.and given_1 narrow_1).before args0 about1 = true := by decide +kernel
theorem w_applies : (headSpec (Jvm.Cond.code x code maxLocals ret :: tables_1) room_1).applies x e0.platform about1 = true :=
  (Spec.applies_iff w_frames).mpr ⟨w_running, w_runnable, w_alone, w_named, w_hears, w_ripe, w_room, w_tables⟩
theorem atStart : AtStart classFile x code maxLocals ret World_1 tables_1 room_1 Calls_1 rest_1 Pre_1 launch0 p0 e0 about1 theMethod args0 below0 :=
  ⟨lists_1, trivial, launch0.admits_env _ _ _, launch0.least_env, fairChoices_fair.cas, fairChoices_fair.clock, w_frames, w_args, w_heap, w_applies, trivial, trivial, w_case⟩
end start1
theorem witness_1 : WitnessClaimed_1 := ⟨start1.p0, start1.e0, start1.about1, start1.theMethod, start1.args0, start1.below0, start1.atStart⟩
end Jvm.Pilot.@@N@@
