import JvmDerived
import JvmDerived.Pilot.@@N@@Statement
import JvmDerived.Pilot.@@N@@Code
set_option linter.unusedVariables false
set_option linter.unusedSimpArgs false
set_option maxHeartbeats 40000000
namespace Jvm.RoadKit
open Sem ClassFile Op Lib Jvm.Stand Jvm.Free Jvm.LawKit
section New
variable {p : Program} {l : Launch} {e : Env} {R : Room} {s : State} {m : MethodId} {args : Array Value} {below : List Frame} {meth : Method} {c : Code} {T : State} {locs : List Loc} {cells slots : Nat}
theorem retI (X : Stand p l e R s m args below meth c T locs cells slots) (hx : p.tables.exec = Jvm.exec) {pc : Nat} {Ls : Array Slot} {z : Int32} {rest : List Value} (hret : meth.sig.returnType = some .int) (hd : decode c.code pc = .ok (.ireturn, 1)) {fs : List Frame}
    (hl : ∀ (f : JFrame) (acts : List Action), f.method = m → f.locked = none → f.entered = [] → (doReturn e (T.setTop f) acts (some (.int z))).1 = T.setFrames fs) : Steps p.tables e below (T.setTop (mkF m pc Ls (.int z :: rest))) (T.setFrames fs) := by
  have hm' : T.vm.method? m = some meth := X.method'
  have hn : narrow .int (.int z) = .int z := rfl
  show Steps p.tables e below (T.setTop { method := m, pc := pc, locals := Ls, stack := _ :: rest, locked := none }) _
  jvm_step X.here [X.here.top, hx, hd, hm', hret, hn]
  first | (intro acts; rw [hl _ acts rfl rfl rfl]) | rw [hl _ _ rfl rfl rfl]
  exact Steps.refl _
end New
end Jvm.RoadKit
namespace Jvm.Pilot.@@N@@
open Jvm Jvm.ClassFile Sem Op Lib Jvm.Free Jvm.Stand Jvm.LawKit Jvm.RoadKit Bundle Jvm.Pilot.@@N@@.Jvm.D
/-! a run that ends well: what this text is made of -/
def own_Run (p : Program) (e : Env) (below : List Frame) (Φ : State → Prop) (S : State) : Prop := ∃ t, Steps p.tables e below S t ∧ Φ t
def own_Fin (s : State) (below : List Frame) (C D : Nat) (Q : Option Value → Heap → List Loc → Prop) (t : State) : Prop :=
  t.status = .running ∧ ∃ v L, Ended t below (.returned v) ∧ Q v t.heap L ∧ FrameEnd s (.returned v) t L C D
def own_Met (l : Launch) (Z : State) (y : MethodName) (bytes : ByteArray) (maxL : Nat) (ret : Option FieldType) (rm : Room) (as : Array Value) (h : Heap) (Q : Option Value → Heap → List Loc → Prop) : Prop :=
  ∀ ws : List Jvm.Cond, MetFree l y (head1 (Jvm.Cond.code y bytes maxL ret :: ws) rm) (fun a U => a = as ∧ Z.Warmed39 U.vm ∧ U.heap = h) (fun _ _ _ _ _ => True) (fun _ U o U' => ∃ v L, o = .returned v ∧ Q v U'.heap L ∧ FrameEnd U o U' L rm.cells rm.slots)
section OwnRun
variable {p : Program} {l : Launch} {e : Env} {R : Room} {s : State} {m : MethodId} {args : Array Value} {below : List Frame} {meth : Method} {c : Code} {T : State} {locs : List Loc} {cells slots : Nat} {Φ : State → Prop} {S S' : State} {Z : State} {a0 : Array Value} {h : Heap}
theorem own_go (st : ∀ t, Steps p.tables e below S' t → Steps p.tables e below S t) (r : own_Run p e below Φ S') : own_Run p e below Φ S := r.elim fun t q => ⟨t, st t q.1, q.2⟩
theorem own_via (st : Steps p.tables e below S S') (r : own_Run p e below Φ S') : own_Run p e below Φ S := r.elim fun t q => ⟨t, st.trans q.1, q.2⟩
theorem own_cast {g g' : JFrame} (q : g = g') (r : own_Run p e below Φ (T.setTop g')) : own_Run p e below Φ (T.setTop g) := q ▸ r
theorem own_body {C D : Nat} {Q : Option Value → Heap → List Loc → Prop} (r : own_Run p e below (own_Fin s below C D Q) S) :
    ∃ s₂ o, Steps p.tables e below S s₂ ∧ s₂.status = .running ∧ Ended s₂ below o ∧ ∃ v L, o = .returned v ∧ Q v s₂.heap L ∧ FrameEnd s o s₂ L C D := by
  obtain ⟨t, q1, q2, v, L, q3, q4, q5⟩ := r
  exact ⟨t, _, q1, q2, q3, v, L, rfl, q4, q5⟩
variable {C D : Nat} {Q : Option Value → Heap → List Loc → Prop}
theorem own_retI (X : Stand p l e R s m args below meth c T locs cells slots) (hx : p.tables.exec = Jvm.exec) (hret : meth.sig.returnType = some .int) (hlk : meth.locks = false) {pc : Nat} {Ls : Array Slot} {z : Int32} {rest : List Value} (hd : decode c.code pc = .ok (.ireturn, 1)) (eT : T.heap = h) (hq : Q (some (.int z)) h locs) (hc : cells ≤ C) (hs : slots ≤ D) :
    own_Run p e below (own_Fin s below C D Q) (T.setTop (mkF m pc Ls (.int z :: rest))) := by
  obtain ⟨fs, hr, hrun, hended, hW, hsame⟩ := X.leave (v := some (.int z)) (fun q => by rw [hret] at q; cases q) hlk
  exact ⟨_, retI X hx hret hd hr, hrun, _, _, hended, by show Q _ T.heap _; rw [eT]; exact hq, ⟨_, rfl⟩, hW, hsame.mono hc hs⟩
theorem own_retN (X : Stand p l e R s m args below meth c T locs cells slots) (hx : p.tables.exec = Jvm.exec) {t : FieldType} (hret : meth.sig.returnType = some t) (ht : t = .boolean ∨ t = .byte ∨ t = .char ∨ t = .short) (hlk : meth.locks = false) {pc : Nat} {Ls : Array Slot} {z : Int32} {rest : List Value} (hd : decode c.code pc = .ok (.ireturn, 1)) (eT : T.heap = h) (hq : Q (some (.int (nar t z))) h locs) (hc : cells ≤ C) (hs : slots ≤ D) :
    own_Run p e below (own_Fin s below C D Q) (T.setTop (mkF m pc Ls (.int z :: rest))) := by
  obtain ⟨fs, hr, hrun, hended, hW, hsame⟩ := X.leave (v := some (.int (nar t z))) (fun q => by rw [hret] at q; cases q) hlk
  exact ⟨_, retN X hx hret ht hd hr, hrun, _, _, hended, by show Q _ T.heap _; rw [eT]; exact hq, ⟨_, rfl⟩, hW, hsame.mono hc hs⟩
theorem own_retV (X : Stand p l e R s m args below meth c T locs cells slots) (hx : p.tables.exec = Jvm.exec) (hret : meth.sig.returnType = none) (hlk : meth.locks = false) {pc : Nat} {Ls : Array Slot} (hd : decode c.code pc = .ok (.return_, 1)) (eT : T.heap = h) (hq : Q none h locs) (hc : cells ≤ C) (hs : slots ≤ D) :
    own_Run p e below (own_Fin s below C D Q) (T.setTop (mkF m pc Ls [])) := by
  obtain ⟨fs, hr, hrun, hended, hW, hsame⟩ := X.leave (v := none) (fun _ => rfl) hlk
  exact ⟨_, X.returnOut hx hret hd hr, hrun, _, _, hended, by show Q _ T.heap _; rw [eT]; exact hq, ⟨_, rfl⟩, hW, hsame.mono hc hs⟩
theorem own_retO (X : Stand p l e R s m args below meth c T locs cells slots) (hx : p.tables.exec = Jvm.exec) {t : FieldType} {i : Instr} {w : Value} (hret : meth.sig.returnType = some t) (hn : narrow t w = w)
    (hi : (i = .ireturn ∧ (t = .int ∨ t = .boolean ∨ t = .byte ∨ t = .char ∨ t = .short) ∧ ∃ z, w = .int z) ∨ (i = .lreturn ∧ t = .long ∧ ∃ z, w = .long z) ∨ (i = .dreturn ∧ t = .double ∧ ∃ z, w = .double z) ∨ (i = .freturn ∧ t = .float ∧ ∃ z, w = .float z) ∨ (i = .areturn ∧ t.isReference = true ∧ w.isRef = true))
    (hlk : meth.locks = false) {pc : Nat} {Ls : Array Slot} {rest : List Value} (hd : decode c.code pc = .ok (i, 1)) (eT : T.heap = h) (hq : Q (some w) h locs) (hc : cells ≤ C) (hs : slots ≤ D) :
    own_Run p e below (own_Fin s below C D Q) (T.setTop (mkF m pc Ls (w :: rest))) := by
  obtain ⟨fs, hr, hrun, hended, hW, hsame⟩ := X.leave (v := some w) (fun q => by rw [hret] at q; cases q) hlk
  exact ⟨_, retOut X hx hret hn hi hd hr, hrun, _, _, hended, by show Q _ T.heap _; rw [eT]; exact hq, ⟨_, rfl⟩, hW, hsame.mono hc hs⟩
/-- who pays a call -/
def own_Bk (l : Launch) (R : Room) (p : Program) (e : Env) (below : List Frame) (s : State) (args : Array Value) (y : MethodName) (W : Nat) (as : Array Value) (h : Heap) (cc ss : Nat) (Q : Option Value → Heap → List Loc → Prop) : Prop :=
  Back l R p e below s args y 3 W (fun A a => a = as ∧ A.U.heap = h ∧ A.cells + cc ≤ R.cells ∧ A.slots + ss ≤ R.slots) (fun A _ v B => ∃ L, Q v B.U.heap L ∧ B.locs = A.locs ++ L ∧ B.cells = A.cells + cc ∧ B.slots = A.slots + ss)
theorem own_bk {y : MethodName} {bytes : ByteArray} {maxL : Nat} {ret : Option FieldType} {rm : Room} {W : Nat} {as : Array Value} (hM : own_Met l Z y bytes maxL ret rm as h Q) (hZ : Z.Warmed39 s.vm) (wc : (Jvm.Cond.code y bytes maxL ret).before a0 Z = true) (wz : (Jvm.Cond.initialized y.cls).before a0 Z = true) (hf : rm.frames + 1 ≤ R.frames) (hl : W + (maxL + 11) + rm.locals ≤ R.locals) :
    own_Bk l R p e below s args y W as h rm.cells rm.slots Q := backOf (W := W) (hM []) hZ wc wz hf hl
/-- a static method by its contract -/
theorem own_callS (X : Stand p l e R s m args below meth c T locs cells slots) (hx : p.tables.exec = Jvm.exec) (hZ : Z.Warmed39 s.vm) {own : String} {index : Nat} {y : MethodName} {bytes : ByteArray} {maxL : Nat} {ret : Option FieldType} {cc ss : Nat}
    (hown : s.vm.findClass own = some m.cls) (w1 : (Jvm.Cond.methodLink own index y).before a0 Z = true) (w2 : (Jvm.Cond.static y).before a0 Z = true) (w3 : (Jvm.Cond.initialized y.cls).before a0 Z = true) (w4 : (Jvm.Cond.code y bytes maxL ret).before a0 Z = true)
    (hy : y.cls ≠ "java/lang/invoke/MethodHandle" ∧ y.cls ≠ "java/lang/invoke/VarHandle") {W : Nat} {argsL rest : List Value} (hK : own_Bk l R p e below s args y W argsL.toArray h cc ss Q) (eT : T.heap = h)
    {g : JFrame} (hg : g.method = m) (hsize : g.locals.size = c.maxLocals) (hlen : ∀ sig, parseMethodDescriptor y.desc = some sig → argsL.length = sig.parameters.length)
    (hstack : g.stack = argsL.reverse ++ rest) (hW : 2 * g.monitorRoom + (rest.map fun v => v.category).sum ≤ W) (hdg : decode c.code g.pc = .ok (.invokestatic index, 3))
    (hcl : cells + cc ≤ R.cells) (hsl : slots + ss ≤ R.slots)
    (k : ∀ v T' h' L, Stand p l e R s m args below meth c T' (locs ++ L) (cells + cc) (slots + ss) → T'.heap = h' → Q v h' L → own_Run p e below Φ (T'.setTop { g with pc := g.pc + 3, stack := v.toList ++ rest })) : own_Run p e below Φ (T.setTop g) := by
  obtain ⟨v, _, ⟨T', L', k', n'⟩, -, X', ⟨Lc, hQ, l1, y1, z1⟩, st⟩ := Jvm.LawKit.callS X hx (y := y) hown (mvT hZ w1) (mvT hZ w2) (mvT hZ w3) (mvT hZ w4) hy hK hg hsize hlen hstack hW hdg (fun _ _ => ⟨rfl, eT, hcl, hsl⟩)
  dsimp only [Pt.U, Pt.locs, Pt.cells, Pt.slots] at X' l1 y1 z1 st hQ
  subst l1 y1 z1
  exact own_go st (k v T' _ Lc X' rfl hQ)
/-- a constructor by its contract -/
theorem own_callI (X : Stand p l e R s m args below meth c T locs cells slots) (hx : p.tables.exec = Jvm.exec) (hZ : Z.Warmed39 s.vm) {own : String} {index : Nat} {y : MethodName} {bytes : ByteArray} {maxL : Nat} {cc ss : Nat} (hy1 : y.name = "<init>")
    (hown : s.vm.findClass own = some m.cls) (w1 : (Jvm.Cond.methodLink own index y).before a0 Z = true) (w2 : (Jvm.Cond.instanceMethod y).before a0 Z = true) (w4 : (Jvm.Cond.code y bytes maxL none).before a0 Z = true)
    (hy : y.cls ≠ "java/lang/invoke/MethodHandle" ∧ y.cls ≠ "java/lang/invoke/VarHandle") {W : Nat} {a : Addr} {argsL rest : List Value} (hK : own_Bk l R p e below s args y W (.ref a :: argsL).toArray h cc ss Q) (eT : T.heap = h)
    {g : JFrame} (hg : g.method = m) (hsize : g.locals.size = c.maxLocals) (hlen : ∀ sig, parseMethodDescriptor y.desc = some sig → argsL.length = sig.parameters.length)
    (hstack : g.stack = argsL.reverse ++ .ref a :: rest) (hW : 2 * g.monitorRoom + (rest.map fun v => v.category).sum ≤ W) (hdg : decode c.code g.pc = .ok (.invokespecial index, 3))
    (hcl : cells + cc ≤ R.cells) (hsl : slots + ss ≤ R.slots)
    (k : ∀ v T' h' L, Stand p l e R s m args below meth c T' (locs ++ L) (cells + cc) (slots + ss) → T'.heap = h' → Q v h' L → own_Run p e below Φ (T'.setTop { g with pc := g.pc + 3, stack := v.toList ++ rest })) : own_Run p e below Φ (T.setTop g) := by
  obtain ⟨v, _, ⟨T', L', k', n'⟩, -, X', ⟨Lc, hQ, l1, y1, z1⟩, st⟩ := X.specialBack hx (y := y) hy1 hown (mvT hZ w1) (mvT hZ w2) (mvT hZ w4) hy hK hg hsize (Steps.refl _) (a := a) hlen hstack hW hdg (fun _ _ => ⟨rfl, eT, hcl, hsl⟩)
  dsimp only [Pt.U, Pt.locs, Pt.cells, Pt.slots] at X' l1 y1 z1 st hQ
  subst l1 y1 z1
  exact own_via st (k v T' _ Lc X' rfl hQ)
/-- an instance method by the contract of the body that the receiver's class selects -/
theorem own_callV (X : Stand p l e R s m args below meth c T locs cells slots) (hx : p.tables.exec = Jvm.exec) (hZ : Z.Warmed39 s.vm) {own C : String} {index : Nat} {y z : MethodName} {cc ss : Nat}
    (hown : s.vm.findClass own = some m.cls) (w1 : (Jvm.Cond.methodLink own index y).before a0 Z = true) (w2 : (Jvm.Cond.declares y).before a0 Z = true) (hnf : NotFace s y) (w3 : (Jvm.Cond.selects C y z).before a0 Z = true) (w4 : (Jvm.Cond.instanceMethod z).before a0 Z = true)
    (hy : y.cls ≠ "java/lang/invoke/MethodHandle" ∧ y.cls ≠ "java/lang/invoke/VarHandle") {W : Nat} {a : Addr} {argsL rest : List Value} (hK : own_Bk l R p e below s args z W (.ref a :: argsL).toArray h cc ss Q) (eT : T.heap = h) (E : Exa Z h a C)
    {g : JFrame} (hg : g.method = m) (hsize : g.locals.size = c.maxLocals) (hlen : ∀ sig, parseMethodDescriptor y.desc = some sig → argsL.length = sig.parameters.length)
    (hstack : g.stack = argsL.reverse ++ .ref a :: rest) (hW : 2 * g.monitorRoom + (rest.map fun v => v.category).sum ≤ W) (hdg : decode c.code g.pc = .ok (.invokevirtual index, 3))
    (hcl : cells + cc ≤ R.cells) (hsl : slots + ss ≤ R.slots)
    (k : ∀ v T' h' L, Stand p l e R s m args below meth c T' (locs ++ L) (cells + cc) (slots + ss) → T'.heap = h' → Q v h' L → own_Run p e below Φ (T'.setTop { g with pc := g.pc + 3, stack := v.toList ++ rest })) : own_Run p e below Φ (T.setTop g) := by
  obtain ⟨cq, kq, qa, qb, qc⟩ := isOf hZ eT E
  obtain ⟨v, _, ⟨T', L', k', n'⟩, -, X', ⟨Lc, hQ, l1, y1, z1⟩, st⟩ := X.virtualBack hx (y := y) (z := z) hown (mvT hZ w1) (mvT hZ w2) hnf (mvT hZ w3) (mvT hZ w4) hy hK qa qc hg hsize (Steps.refl _) hlen hstack hW hdg (fun _ _ => ⟨rfl, eT, hcl, hsl⟩)
  dsimp only [Pt.U, Pt.locs, Pt.cells, Pt.slots] at X' l1 y1 z1 st hQ
  subst l1 y1 z1
  exact own_via st (k v T' _ Lc X' rfl hQ)
/-- an instance method that a superclass declares -/
theorem own_callU (X : Stand p l e R s m args below meth c T locs cells slots) (hx : p.tables.exec = Jvm.exec) (hZ : Z.Warmed39 s.vm) {own C owner : String} {index : Nat} {y z : MethodName} {cc ss : Nat}
    (hown : s.vm.findClass own = some m.cls) (w1 : (Jvm.Cond.methodLink own index y).before a0 Z = true) (w0 : (Jvm.Cond.sameMethod y.cls owner y.name y.desc).before a0 Z = true) (w2 : (Jvm.Cond.declares ⟨owner, y.name, y.desc⟩).before a0 Z = true) (w3 : (Jvm.Cond.selects C y z).before a0 Z = true) (w4 : (Jvm.Cond.instanceMethod z).before a0 Z = true)
    (hy : owner ≠ "java/lang/invoke/MethodHandle" ∧ owner ≠ "java/lang/invoke/VarHandle") {W : Nat} {a : Addr} {argsL rest : List Value} (hK : own_Bk l R p e below s args z W (.ref a :: argsL).toArray h cc ss Q) (eT : T.heap = h) (E : Exa Z h a C)
    {g : JFrame} (hg : g.method = m) (hsize : g.locals.size = c.maxLocals) (hlen : ∀ sig, parseMethodDescriptor y.desc = some sig → argsL.length = sig.parameters.length)
    (hstack : g.stack = argsL.reverse ++ .ref a :: rest) (hW : 2 * g.monitorRoom + (rest.map fun v => v.category).sum ≤ W) (hdg : decode c.code g.pc = .ok (.invokevirtual index, 3))
    (hcl : cells + cc ≤ R.cells) (hsl : slots + ss ≤ R.slots)
    (k : ∀ v T' h' L, Stand p l e R s m args below meth c T' (locs ++ L) (cells + cc) (slots + ss) → T'.heap = h' → Q v h' L → own_Run p e below Φ (T'.setTop { g with pc := g.pc + 3, stack := v.toList ++ rest })) : own_Run p e below Φ (T.setTop g) := by
  obtain ⟨cq, kq, qa, qb, qc⟩ := isOf hZ eT E
  obtain ⟨v, _, ⟨T', L', k', n'⟩, -, X', ⟨Lc, hQ, l1, y1, z1⟩, st⟩ := X.virtualBackUp hx (x := y) (y := z) hown (mvT hZ w1) (mvT hZ w0) (mvT hZ w2) hy (mvT hZ w3) (mvT hZ w4) hK qa qc hg hsize (Steps.refl _) hlen hstack hW hdg (fun _ _ => ⟨rfl, eT, hcl, hsl⟩)
  dsimp only [Pt.U, Pt.locs, Pt.cells, Pt.slots] at X' l1 y1 z1 st hQ
  subst l1 y1 z1
  exact own_via st (k v T' _ Lc X' rfl hQ)
/-- a private method by its contract -/
theorem own_callP (X : Stand p l e R s m args below meth c T locs cells slots) (hx : p.tables.exec = Jvm.exec) (hZ : Z.Warmed39 s.vm) {own C : String} {index : Nat} {y : MethodName} {bytes : ByteArray} {maxL : Nat} {ret : Option FieldType} {cc ss : Nat}
    (hown : s.vm.findClass own = some m.cls) (w1 : (Jvm.Cond.methodLink own index y).before a0 Z = true) (w2 : (Jvm.Cond.instanceMethod y).before a0 Z = true) (w3 : (Jvm.Cond.selects y.cls y y).before a0 Z = true) (w4 : (Jvm.Cond.privateMethod y).before a0 Z = true) (w6 : (Jvm.Cond.code y bytes maxL ret).before a0 Z = true)
    (hy : y.cls ≠ "java/lang/invoke/MethodHandle" ∧ y.cls ≠ "java/lang/invoke/VarHandle") {W : Nat} {a : Addr} {argsL rest : List Value} (hK : own_Bk l R p e below s args y W (.ref a :: argsL).toArray h cc ss Q) (eT : T.heap = h) (E : Exa Z h a C)
    {g : JFrame} (hg : g.method = m) (hsize : g.locals.size = c.maxLocals) (hlen : ∀ sig, parseMethodDescriptor y.desc = some sig → argsL.length = sig.parameters.length)
    (hstack : g.stack = argsL.reverse ++ .ref a :: rest) (hW : 2 * g.monitorRoom + (rest.map fun v => v.category).sum ≤ W) (hdg : decode c.code g.pc = .ok (.invokevirtual index, 3))
    (hcl : cells + cc ≤ R.cells) (hsl : slots + ss ≤ R.slots)
    (k : ∀ v T' h' L, Stand p l e R s m args below meth c T' (locs ++ L) (cells + cc) (slots + ss) → T'.heap = h' → Q v h' L → own_Run p e below Φ (T'.setTop { g with pc := g.pc + 3, stack := v.toList ++ rest })) : own_Run p e below Φ (T.setTop g) := by
  obtain ⟨cq, q1, q2⟩ := E.cell
  obtain ⟨v, _, ⟨T', L', k', n'⟩, -, X', ⟨Lc, hQ, l1, y1, z1⟩, st⟩ := X.privateBack hx (y := y) hown (mvT hZ w1) (mvT hZ w2) (mvT hZ w3) (Cond.privateMethod_at (mvP hZ w4 (args := #[]))) (mvT hZ w6) hy hK hg hsize (Steps.refl _) (a := a) (by rw [eT]; exact q1) q2 hlen hstack hW hdg (fun _ _ => ⟨rfl, eT, hcl, hsl⟩)
  dsimp only [Pt.U, Pt.locs, Pt.cells, Pt.slots] at X' l1 y1 z1 st hQ
  subst l1 y1 z1
  exact own_via st (k v T' _ Lc X' rfl hQ)
/-- arrays: reading -/
theorem own_iaload (X : Stand p l e R s m args below meth c T locs cells slots) (hx : p.tables.exec = Jvm.exec) (hZ : Z.Warmed39 s.vm) (eT : T.heap = h) {a : Addr} {k : ClassId} {z j : Int32} {vs : List Value} {dv v : Value} (V : Arv Z h a k .int z vs dv) (hj : ¬ j < 0 ∧ j < z) (hv : vs.getD j.toNatClampNeg dv = v)
    {g : JFrame} (hg : g.method = m) {rest : List Value} (hs : g.stack = .int j :: .ref a :: rest) (hd : decode c.code g.pc = .ok (.iaload, 1)) (r : own_Run p e below Φ (T.setTop { g with pc := g.pc + 1, stack := v :: rest })) : own_Run p e below Φ (T.setTop g) := by
  obtain ⟨cl, A, -, S, -, H, -⟩ := V
  exact own_go (fun t q => X.iaload hx (j := j) (v := v) (by rw [eT]; exact A.1) (State.isArrayOf_alike hZ.alike A.2.1) A.2.2 (inb_of S hj) (Has.at H (inb_of S hj) hv) hg hs hd t q) r
theorem own_laload (X : Stand p l e R s m args below meth c T locs cells slots) (hx : p.tables.exec = Jvm.exec) (hZ : Z.Warmed39 s.vm) (eT : T.heap = h) {a : Addr} {k : ClassId} {z j : Int32} {vs : List Value} {dv v : Value} (V : Arv Z h a k .long z vs dv) (hj : ¬ j < 0 ∧ j < z) (hv : vs.getD j.toNatClampNeg dv = v)
    {g : JFrame} (hg : g.method = m) {rest : List Value} (hs : g.stack = .int j :: .ref a :: rest) (hd : decode c.code g.pc = .ok (.laload, 1)) (r : own_Run p e below Φ (T.setTop { g with pc := g.pc + 1, stack := v :: rest })) : own_Run p e below Φ (T.setTop g) := by
  obtain ⟨cl, A, -, S, -, H, -⟩ := V
  exact own_go (fun t q => X.laload hx (j := j) (v := v) (by rw [eT]; exact A.1) (State.isArrayOf_alike hZ.alike A.2.1) A.2.2 (inb_of S hj) (Has.at H (inb_of S hj) hv) hg hs hd t q) r
theorem own_caload (X : Stand p l e R s m args below meth c T locs cells slots) (hx : p.tables.exec = Jvm.exec) (hZ : Z.Warmed39 s.vm) (eT : T.heap = h) {a : Addr} {k : ClassId} {z j : Int32} {vs : List Value} {dv v : Value} (V : Arv Z h a k .char z vs dv) (hj : ¬ j < 0 ∧ j < z) (hv : vs.getD j.toNatClampNeg dv = v)
    {g : JFrame} (hg : g.method = m) {rest : List Value} (hs : g.stack = .int j :: .ref a :: rest) (hd : decode c.code g.pc = .ok (.caload, 1)) (r : own_Run p e below Φ (T.setTop { g with pc := g.pc + 1, stack := v :: rest })) : own_Run p e below Φ (T.setTop g) := by
  obtain ⟨cl, A, -, S, -, H, -⟩ := V
  exact own_go (fun t q => X.caload hx (j := j) (v := v) (by rw [eT]; exact A.1) (State.isArrayOf_alike hZ.alike A.2.1) A.2.2 (inb_of S hj) (Has.at H (inb_of S hj) hv) hg hs hd t q) r
theorem own_baload (X : Stand p l e R s m args below meth c T locs cells slots) (hx : p.tables.exec = Jvm.exec) (hZ : Z.Warmed39 s.vm) (eT : T.heap = h) {a : Addr} {k : ClassId} {z j : Int32} {vs : List Value} {dv v : Value} (V : Arv Z h a k .byte z vs dv) (hj : ¬ j < 0 ∧ j < z) (hv : vs.getD j.toNatClampNeg dv = v)
    {g : JFrame} (hg : g.method = m) {rest : List Value} (hs : g.stack = .int j :: .ref a :: rest) (hd : decode c.code g.pc = .ok (.baload, 1)) (r : own_Run p e below Φ (T.setTop { g with pc := g.pc + 1, stack := v :: rest })) : own_Run p e below Φ (T.setTop g) := by
  obtain ⟨cl, A, -, S, -, H, -⟩ := V
  exact own_go (fun t q => X.baloadBytes hx (j := j) (v := v) (by rw [eT]; exact A.1) (State.isArrayOf_alike hZ.alike A.2.1) A.2.2 (inb_of S hj) (Has.at H (inb_of S hj) hv) hg hs hd t q) r
theorem own_arrlen (X : Stand p l e R s m args below meth c T locs cells slots) (hx : p.tables.exec = Jvm.exec) (hZ : Z.Warmed39 s.vm) (eT : T.heap = h) {a : Addr} {k : ClassId} {ty : FieldType} {z : Int32} {vs : List Value} {dv : Value} (V : Arv Z h a k ty z vs dv)
    {g : JFrame} (hg : g.method = m) {rest : List Value} (hs : g.stack = .ref a :: rest) (hd : decode c.code g.pc = .ok (.arraylength, 1)) (r : own_Run p e below Φ (T.setTop { g with pc := g.pc + 1, stack := .int z :: rest })) : own_Run p e below Φ (T.setTop g) := by
  obtain ⟨cl, A, -, S, M, -, -⟩ := V
  refine own_go (fun t q => X.arraylength hx (by rw [eT]; exact A.1) (State.isArrayOf_alike hZ.alike A.2.1) hg hs hd t q) ?_
  rw [len_of S M]; exact r
/-- arrays: writing -/
theorem own_iastore (X : Stand p l e R s m args below meth c T locs cells slots) (hx : p.tables.exec = Jvm.exec) (hZ : Z.Warmed39 s.vm) (eT : T.heap = h) {a : Addr} {k : ClassId} {z j x : Int32} {vs : List Value} {dv : Value} (V : Arv Z h a k .int z vs dv) (hj : ¬ j < 0 ∧ j < z) (i : Nat) (hi : j.toNatClampNeg = i) (hl : i < vs.length)
    {g : JFrame} (hg : g.method = m) {rest : List Value} (hs : g.stack = .int x :: .int j :: .ref a :: rest) (hd : decode c.code g.pc = .ok (.iastore, 1))
    (r : ∀ T' h', Stand p l e R s m args below meth c T' (locs ++ [⟨a, j.toNatClampNeg⟩]) cells slots → T'.heap = h' → Wr h h' a j.toNatClampNeg (.int x) → Arv Z h' a k .int z (vs.set i (.int x)) dv → own_Run p e below Φ (T'.setTop { g with pc := g.pc + 1, stack := rest })) : own_Run p e below Φ (T.setTop g) := by
  obtain ⟨cl, A, q, S, N, H, G⟩ := V
  obtain ⟨T', h', X', e', W, st⟩ := stI X hx hZ eT A (j := j) (inb_of S hj) hg hs hd
  exact own_go st (r T' h' X' e' W (Arv.set A q S N H G rfl W i hi hl))
theorem own_lastore (X : Stand p l e R s m args below meth c T locs cells slots) (hx : p.tables.exec = Jvm.exec) (hZ : Z.Warmed39 s.vm) (eT : T.heap = h) {a : Addr} {k : ClassId} {z j : Int32} {x : Int64} {vs : List Value} {dv : Value} (V : Arv Z h a k .long z vs dv) (hj : ¬ j < 0 ∧ j < z) (i : Nat) (hi : j.toNatClampNeg = i) (hl : i < vs.length)
    {g : JFrame} (hg : g.method = m) {rest : List Value} (hs : g.stack = .long x :: .int j :: .ref a :: rest) (hd : decode c.code g.pc = .ok (.lastore, 1))
    (r : ∀ T' h', Stand p l e R s m args below meth c T' (locs ++ [⟨a, j.toNatClampNeg⟩]) cells slots → T'.heap = h' → Wr h h' a j.toNatClampNeg (.long x) → Arv Z h' a k .long z (vs.set i (.long x)) dv → own_Run p e below Φ (T'.setTop { g with pc := g.pc + 1, stack := rest })) : own_Run p e below Φ (T.setTop g) := by
  obtain ⟨cl, A, q, S, N, H, G⟩ := V
  obtain ⟨T', h', X', e', W, st⟩ := stJ X hx hZ eT A (j := j) (inb_of S hj) hg hs hd
  exact own_go st (r T' h' X' e' W (Arv.set A q S N H G rfl W i hi hl))
theorem own_bastore (X : Stand p l e R s m args below meth c T locs cells slots) (hx : p.tables.exec = Jvm.exec) (hZ : Z.Warmed39 s.vm) (eT : T.heap = h) {a : Addr} {k : ClassId} {z j x : Int32} {vs : List Value} {dv : Value} (V : Arv Z h a k .byte z vs dv) (hj : ¬ j < 0 ∧ j < z) (i : Nat) (hi : j.toNatClampNeg = i) (hl : i < vs.length)
    {g : JFrame} (hg : g.method = m) {rest : List Value} (hs : g.stack = .int x :: .int j :: .ref a :: rest) (hd : decode c.code g.pc = .ok (.bastore, 1))
    (r : ∀ T' h', Stand p l e R s m args below meth c T' (locs ++ [⟨a, j.toNatClampNeg⟩]) cells slots → T'.heap = h' → Wr h h' a j.toNatClampNeg (.int x.toInt8.toInt32) → Arv Z h' a k .byte z (vs.set i (.int x.toInt8.toInt32)) dv → own_Run p e below Φ (T'.setTop { g with pc := g.pc + 1, stack := rest })) : own_Run p e below Φ (T.setTop g) := by
  obtain ⟨cl, A, q, S, N, H, G⟩ := V
  obtain ⟨T', h', X', e', W, st⟩ := stB X hx hZ eT A (j := j) (inb_of S hj) hg hs hd
  exact own_go st (r T' h' X' e' W (Arv.set A q S N H G (fits_nar_byte _) W i hi hl))
theorem own_castore (X : Stand p l e R s m args below meth c T locs cells slots) (hx : p.tables.exec = Jvm.exec) (hZ : Z.Warmed39 s.vm) (eT : T.heap = h) {a : Addr} {k : ClassId} {z j x : Int32} {vs : List Value} {dv : Value} (V : Arv Z h a k .char z vs dv) (hj : ¬ j < 0 ∧ j < z) (i : Nat) (hi : j.toNatClampNeg = i) (hl : i < vs.length)
    {g : JFrame} (hg : g.method = m) {rest : List Value} (hs : g.stack = .int x :: .int j :: .ref a :: rest) (hd : decode c.code g.pc = .ok (.castore, 1))
    (r : ∀ T' h', Stand p l e R s m args below meth c T' (locs ++ [⟨a, j.toNatClampNeg⟩]) cells slots → T'.heap = h' → Wr h h' a j.toNatClampNeg (.int (nar .char x)) → Arv Z h' a k .char z (vs.set i (.int (nar .char x))) dv → own_Run p e below Φ (T'.setTop { g with pc := g.pc + 1, stack := rest })) : own_Run p e below Φ (T.setTop g) := by
  obtain ⟨cl, A, q, S, N, H, G⟩ := V
  obtain ⟨T', h', X', e', W, st⟩ := stC X hx hZ eT A (j := j) (inb_of S hj) hg hs hd
  exact own_go st (r T' h' X' e' W (Arv.set A q S N H G (fits_nar_char _) W i hi hl))
theorem own_newP (X : Stand p l e R s m args below meth c T locs cells slots) (hx : p.tables.exec = Jvm.exec) (hZ : Z.Warmed39 s.vm) {aty : ArrayType} (w : (Jvm.Cond.arrayClass (newarray.typeOf aty)).before a0 Z = true) (eT : T.heap = h) {g : JFrame} (hg : g.method = m) (hd : decode c.code g.pc = .ok (.newarray aty, 2)) {n : Int32} {rest : List Value} (hs : g.stack = .int n :: rest)
    (hn : ¬ n < 0) (cap : Nat) (hcap : n.toNatClampNeg ≤ cap) (hb : cap * 8 ≤ 536870912) (hc : cells + 1 ≤ R.cells) (hl : slots + cap ≤ R.slots) (N : Nat)
    (r : ∀ T' h' cA a, Stand p l e R s m args below meth c T' locs (cells + 1) (slots + cap) → T'.heap = h' → Ext h h' → a = h.size → Arv Z h' a cA (newarray.typeOf aty) n (List.replicate N (defaultValue (newarray.typeOf aty))) (defaultValue (newarray.typeOf aty)) → own_Run p e below Φ (T'.setTop { g with pc := g.pc + 2, stack := .ref a :: rest })) : own_Run p e below Φ (T.setTop g) := by
  obtain ⟨T', h', cA, X', e', E, A, st⟩ := newP X hx hZ w eT hg hd hs hn hcap hb hc hl
  have V := Arv.new A hn
  have q : ∀ i, (List.replicate N (defaultValue (newarray.typeOf aty))).getD i (defaultValue (newarray.typeOf aty)) = ([] : List Value).getD i (defaultValue (newarray.typeOf aty)) := pad_rep [] (defaultValue (newarray.typeOf aty)) N
  exact own_go st (r T' h' cA h.size X' e' E rfl (V.pad q))
theorem own_newRA (X : Stand p l e R s m args below meth c T locs cells slots) (hx : p.tables.exec = Jvm.exec) (hZ : Z.Warmed39 s.vm) {own C : String} {ty : FieldType} {index : Nat} (hown : s.vm.findClass own = some m.cls) (hC : (FieldType.array ty).toString = C) (w1 : (Jvm.Cond.classLink own index C).before a0 Z = true) (w2 : (Jvm.Cond.arrayOver (.array ty)).before a0 Z = true) (eT : T.heap = h) {g : JFrame} (hg : g.method = m) (hd : decode c.code g.pc = .ok (.anewarray index, 3)) {n : Int32} {rest : List Value} (hs : g.stack = .int n :: rest)
    (hn : ¬ n < 0) (cap : Nat) (hcap : n.toNatClampNeg ≤ cap) (hb : cap * 8 ≤ 536870912) (hc : cells + 1 ≤ R.cells) (hl : slots + cap ≤ R.slots) (N : Nat)
    (r : ∀ T' h' cA a, Stand p l e R s m args below meth c T' locs (cells + 1) (slots + cap) → T'.heap = h' → Ext h h' → a = h.size → Arv Z h' a cA (.array ty) n (List.replicate N .null) .null → OvrA Z cA ty C → own_Run p e below Φ (T'.setTop { g with pc := g.pc + 3, stack := .ref a :: rest })) : own_Run p e below Φ (T.setTop g) := by
  obtain ⟨T', h', cA, X', e', E, A, -, O, st⟩ := newRA X hx hZ hown hC w1 w2 eT hg hd hs hn hcap hb hc hl rfl
  have V := Arv.new A hn
  have q : ∀ i, (List.replicate N Value.null).getD i Value.null = ([] : List Value).getD i Value.null := pad_rep [] Value.null N
  exact own_go st (r T' h' cA h.size X' e' E rfl (V.pad q) O)
theorem own_newPE (X : Stand p l e R s m args below meth c T locs cells slots) (hx : p.tables.exec = Jvm.exec) (hZ : Z.Warmed39 s.vm) {aty : ArrayType} (w : (Jvm.Cond.arrayClass (newarray.typeOf aty)).before a0 Z = true) (eT : T.heap = h) {g : JFrame} (hg : g.method = m) (hd : decode c.code g.pc = .ok (.newarray aty, 2)) {n : Int32} {rest : List Value} (hs : g.stack = .int n :: rest)
    (hn : ¬ n < 0) (cap : Nat) (hcap : n.toNatClampNeg ≤ cap) (hb : cap * 8 ≤ 536870912) (hc : cells + 1 ≤ R.cells) (hl : slots + cap ≤ R.slots) (N : Nat) (ad : String) (had : "[" ++ (newarray.typeOf aty).toString = ad)
    (r : ∀ T' h' cA a, Stand p l e R s m args below meth c T' locs (cells + 1) (slots + cap) → T'.heap = h' → Ext h h' → a = h.size → Arv Z h' a cA (newarray.typeOf aty) n (List.replicate N (defaultValue (newarray.typeOf aty))) (defaultValue (newarray.typeOf aty)) → Exa Z h' a ad → own_Run p e below Φ (T'.setTop { g with pc := g.pc + 2, stack := .ref a :: rest })) : own_Run p e below Φ (T.setTop g) := by
  obtain ⟨T', h', cA, X', e', E, A, Ex, st⟩ := newPE X hx hZ w eT hg hd hs hn hcap hb hc hl had
  have V := Arv.new A hn
  have q : ∀ i, (List.replicate N (defaultValue (newarray.typeOf aty))).getD i (defaultValue (newarray.typeOf aty)) = ([] : List Value).getD i (defaultValue (newarray.typeOf aty)) := pad_rep [] (defaultValue (newarray.typeOf aty)) N
  exact own_go st (r T' h' cA h.size X' e' E rfl (V.pad q) Ex)
theorem own_aastore (X : Stand p l e R s m args below meth c T locs cells slots) (hx : p.tables.exec = Jvm.exec) (hZ : Z.Warmed39 s.vm) (eT : T.heap = h) {a y : Addr} {k : ClassId} {t0 : FieldType} {C C' : String} {z j : Int32} {vs : List Value} {dv : Value} (V : Arv Z h a k (.array t0) z vs dv) (O : OvrA Z k t0 C) (E : Exa Z h y C') (wc : (Jvm.Cond.castable C' C).before a0 Z = true) (hj : ¬ j < 0 ∧ j < z) (i : Nat) (hi : j.toNatClampNeg = i) (hl : i < vs.length)
    {g : JFrame} (hg : g.method = m) {rest : List Value} (hs : g.stack = .ref y :: .int j :: .ref a :: rest) (hd : decode c.code g.pc = .ok (.aastore, 1))
    (r : ∀ T' h', Stand p l e R s m args below meth c T' (locs ++ [⟨a, j.toNatClampNeg⟩]) cells slots → T'.heap = h' → Wr h h' a j.toNatClampNeg (.ref y) → Arv Z h' a k (.array t0) z (vs.set i (.ref y)) dv → own_Run p e below Φ (T'.setTop { g with pc := g.pc + 1, stack := rest })) : own_Run p e below Φ (T.setTop g) := by
  obtain ⟨cl, A, q, S, N, H, G⟩ := V
  obtain ⟨T', h', X', e', W, st⟩ := stR X hx hZ eT A (j := j) (inb_of S hj) rfl (Sto.ofVA A q O (Ins.of_exa E wc)) hg hs hd
  exact own_go st (r T' h' X' e' W (Arv.set A q S N H G rfl W i hi hl))
theorem own_aaload (X : Stand p l e R s m args below meth c T locs cells slots) (hx : p.tables.exec = Jvm.exec) (hZ : Z.Warmed39 s.vm) (eT : T.heap = h) {a : Addr} {k : ClassId} {ty : FieldType} {z j : Int32} {vs : List Value} {dv v : Value} (V : Arv Z h a k ty z vs dv) (hty : ty.isReference = true) (hj : ¬ j < 0 ∧ j < z) (hv : vs.getD j.toNatClampNeg dv = v)
    {g : JFrame} (hg : g.method = m) {rest : List Value} (hs : g.stack = .int j :: .ref a :: rest) (hd : decode c.code g.pc = .ok (.aaload, 1)) (r : own_Run p e below Φ (T.setTop { g with pc := g.pc + 1, stack := v :: rest })) : own_Run p e below Φ (T.setTop g) := by
  obtain ⟨cl, A, -, S, -, H, -⟩ := V
  exact own_go (fun t q => X.aaload hx (j := j) (v := v) (by rw [eT]; exact A.1) (State.isArrayOf_alike hZ.alike A.2.1) hty A.2.2 (inb_of S hj) (Has.at H (inb_of S hj) hv) hg hs hd t q) r
theorem own_le {a b c d : Nat} (h1 : a ≤ b) (h2 : b + c ≤ d) : a + c ≤ d := Nat.le_trans (Nat.add_le_add_right h1 c) h2
/-- the case's words on statics -/
theorem own_eqI {args : Array Value} {first s : State} {o : Option Outcome} {idx : List Nat} {t : Term} {k : Int32} (h : (Jvm.Cond.eq t (.int k)).value args first o s idx = some true) : t.eval args first o idx s = some (.int k) := by
  cases ht : t.eval args first o idx s with
  | none => simp [Cond.value, ht] at h
  | some x => cases x <;> simp [Cond.value, Term.eval, ht] at h ⊢; exact h
theorem own_fldI {args : Array Value} {t : Term} {x : Addr} {C n d : String} {k : Int32} (ht : t.eval args Z none [] Z = some (.ref x)) (h : (Jvm.Cond.eq (.field t C n d) (.int k)).value args Z none Z [] = some true) : Fld Z Z.heap x C n d (.int k) := Fld.start ((fld_at ht).symm.trans (own_eqI h))
end OwnRun
def own_upd (f : Int64 → Int32) (i : Int64) (v : Int32) : Int64 → Int32 := fun x => if x = i then v else f x
def own_z : Int64 → Int32 := fun _ => 0
def own_min (a b : Int64) : Int64 := if b < a then b else a
theorem own_u1 {f : Int64 → Int32} {i : Int64} {v : Int32} {x : Int64} (h : lcmpW x i = 0) : own_upd f i v x = v := if_pos ((lw_eq x i).mp h)
theorem own_u1' {f : Int64 → Int32} {i : Int64} {v : Int32} : own_upd f i v i = v := if_pos rfl
theorem own_u2 {f : Int64 → Int32} {i : Int64} {v : Int32} {x : Int64} (h : ¬ lcmpW x i = 0) : own_upd f i v x = f x := if_neg fun q => h ((lw_eq x i).mpr q)
def own_fl (f : Int64 → Int32) : List Value := [(.int (f (0 : Int64))), (.int (f (1 : Int64))), (.int (f (2 : Int64))), (.int (f (3 : Int64))), (.int (f (4 : Int64))), (.int (f (5 : Int64))), (.int (f (6 : Int64))), (.int (f (7 : Int64))), (.int (f (8 : Int64))), (.int (f (9 : Int64))), (.int (f (10 : Int64))), (.int (f (11 : Int64))), (.int (f (12 : Int64))), (.int (f (13 : Int64))), (.int (f (14 : Int64))), (.int (f (15 : Int64)))]
theorem own_fl_c {q : Int64} (h : 0 ≤ q.toInt ∧ q.toInt < 16) : q = (0 : Int64) ∨ q = (1 : Int64) ∨ q = (2 : Int64) ∨ q = (3 : Int64) ∨ q = (4 : Int64) ∨ q = (5 : Int64) ∨ q = (6 : Int64) ∨ q = (7 : Int64) ∨ q = (8 : Int64) ∨ q = (9 : Int64) ∨ q = (10 : Int64) ∨ q = (11 : Int64) ∨ q = (12 : Int64) ∨ q = (13 : Int64) ∨ q = (14 : Int64) ∨ q = (15 : Int64) := by
  simp only [← Int64.toInt_inj, Int64.reduceToInt]; omega
theorem own_fl_i {q : Int64} (h : 0 ≤ q.toInt ∧ q.toInt < 16) : (q.toInt32).toInt = q.toInt - 0 := by
  rcases own_fl_c h with rfl | rfl | rfl | rfl | rfl | rfl | rfl | rfl | rfl | rfl | rfl | rfl | rfl | rfl | rfl | rfl <;> decide
theorem own_fl_l {q : Int64} (f : Int64 → Int32) (h : 0 ≤ q.toInt ∧ q.toInt < 16) : (q.toInt32).toNatClampNeg < (own_fl f).length := by
  rcases own_fl_c h with rfl | rfl | rfl | rfl | rfl | rfl | rfl | rfl | rfl | rfl | rfl | rfl | rfl | rfl | rfl | rfl <;> exact Nat.lt_of_lt_of_eq (by decide : _ < 16) rfl
theorem own_fl_g {q : Int64} (f : Int64 → Int32) (h : 0 ≤ q.toInt ∧ q.toInt < 16) : (own_fl f).getD (q.toInt32).toNatClampNeg (.int (0 : Int32)) = .int (f q) := by
  rcases own_fl_c h with rfl | rfl | rfl | rfl | rfl | rfl | rfl | rfl | rfl | rfl | rfl | rfl | rfl | rfl | rfl | rfl
  · rw [show ((0 : Int64).toInt32).toNatClampNeg = 0 from by decide]; rfl
  · rw [show ((1 : Int64).toInt32).toNatClampNeg = 1 from by decide]; rfl
  · rw [show ((2 : Int64).toInt32).toNatClampNeg = 2 from by decide]; rfl
  · rw [show ((3 : Int64).toInt32).toNatClampNeg = 3 from by decide]; rfl
  · rw [show ((4 : Int64).toInt32).toNatClampNeg = 4 from by decide]; rfl
  · rw [show ((5 : Int64).toInt32).toNatClampNeg = 5 from by decide]; rfl
  · rw [show ((6 : Int64).toInt32).toNatClampNeg = 6 from by decide]; rfl
  · rw [show ((7 : Int64).toInt32).toNatClampNeg = 7 from by decide]; rfl
  · rw [show ((8 : Int64).toInt32).toNatClampNeg = 8 from by decide]; rfl
  · rw [show ((9 : Int64).toInt32).toNatClampNeg = 9 from by decide]; rfl
  · rw [show ((10 : Int64).toInt32).toNatClampNeg = 10 from by decide]; rfl
  · rw [show ((11 : Int64).toInt32).toNatClampNeg = 11 from by decide]; rfl
  · rw [show ((12 : Int64).toInt32).toNatClampNeg = 12 from by decide]; rfl
  · rw [show ((13 : Int64).toInt32).toNatClampNeg = 13 from by decide]; rfl
  · rw [show ((14 : Int64).toInt32).toNatClampNeg = 14 from by decide]; rfl
  · rw [show ((15 : Int64).toInt32).toNatClampNeg = 15 from by decide]; rfl
theorem own_fl_s {q : Int64} (f : Int64 → Int32) (v : Int32) (h : 0 ≤ q.toInt ∧ q.toInt < 16) : (own_fl f).set (q.toInt32).toNatClampNeg (.int v) = own_fl (own_upd f q v) := by
  rcases own_fl_c h with rfl | rfl | rfl | rfl | rfl | rfl | rfl | rfl | rfl | rfl | rfl | rfl | rfl | rfl | rfl | rfl
  · rw [show ((0 : Int64).toInt32).toNatClampNeg = 0 from by decide]; rfl
  · rw [show ((1 : Int64).toInt32).toNatClampNeg = 1 from by decide]; rfl
  · rw [show ((2 : Int64).toInt32).toNatClampNeg = 2 from by decide]; rfl
  · rw [show ((3 : Int64).toInt32).toNatClampNeg = 3 from by decide]; rfl
  · rw [show ((4 : Int64).toInt32).toNatClampNeg = 4 from by decide]; rfl
  · rw [show ((5 : Int64).toInt32).toNatClampNeg = 5 from by decide]; rfl
  · rw [show ((6 : Int64).toInt32).toNatClampNeg = 6 from by decide]; rfl
  · rw [show ((7 : Int64).toInt32).toNatClampNeg = 7 from by decide]; rfl
  · rw [show ((8 : Int64).toInt32).toNatClampNeg = 8 from by decide]; rfl
  · rw [show ((9 : Int64).toInt32).toNatClampNeg = 9 from by decide]; rfl
  · rw [show ((10 : Int64).toInt32).toNatClampNeg = 10 from by decide]; rfl
  · rw [show ((11 : Int64).toInt32).toNatClampNeg = 11 from by decide]; rfl
  · rw [show ((12 : Int64).toInt32).toNatClampNeg = 12 from by decide]; rfl
  · rw [show ((13 : Int64).toInt32).toNatClampNeg = 13 from by decide]; rfl
  · rw [show ((14 : Int64).toInt32).toNatClampNeg = 14 from by decide]; rfl
  · rw [show ((15 : Int64).toInt32).toNatClampNeg = 15 from by decide]; rfl
theorem own_fl_o {q : Int64} (f : Int64 → Int32) (v : Int32) (h : q.toInt < 0 ∨ 16 ≤ q.toInt) : own_fl (own_upd f q v) = own_fl f := by
  have u0 : own_upd f q v (0 : Int64) = f (0 : Int64) := if_neg fun e => by rw [← e] at h; revert h; decide
  have u1 : own_upd f q v (1 : Int64) = f (1 : Int64) := if_neg fun e => by rw [← e] at h; revert h; decide
  have u2 : own_upd f q v (2 : Int64) = f (2 : Int64) := if_neg fun e => by rw [← e] at h; revert h; decide
  have u3 : own_upd f q v (3 : Int64) = f (3 : Int64) := if_neg fun e => by rw [← e] at h; revert h; decide
  have u4 : own_upd f q v (4 : Int64) = f (4 : Int64) := if_neg fun e => by rw [← e] at h; revert h; decide
  have u5 : own_upd f q v (5 : Int64) = f (5 : Int64) := if_neg fun e => by rw [← e] at h; revert h; decide
  have u6 : own_upd f q v (6 : Int64) = f (6 : Int64) := if_neg fun e => by rw [← e] at h; revert h; decide
  have u7 : own_upd f q v (7 : Int64) = f (7 : Int64) := if_neg fun e => by rw [← e] at h; revert h; decide
  have u8 : own_upd f q v (8 : Int64) = f (8 : Int64) := if_neg fun e => by rw [← e] at h; revert h; decide
  have u9 : own_upd f q v (9 : Int64) = f (9 : Int64) := if_neg fun e => by rw [← e] at h; revert h; decide
  have u10 : own_upd f q v (10 : Int64) = f (10 : Int64) := if_neg fun e => by rw [← e] at h; revert h; decide
  have u11 : own_upd f q v (11 : Int64) = f (11 : Int64) := if_neg fun e => by rw [← e] at h; revert h; decide
  have u12 : own_upd f q v (12 : Int64) = f (12 : Int64) := if_neg fun e => by rw [← e] at h; revert h; decide
  have u13 : own_upd f q v (13 : Int64) = f (13 : Int64) := if_neg fun e => by rw [← e] at h; revert h; decide
  have u14 : own_upd f q v (14 : Int64) = f (14 : Int64) := if_neg fun e => by rw [← e] at h; revert h; decide
  have u15 : own_upd f q v (15 : Int64) = f (15 : Int64) := if_neg fun e => by rw [← e] at h; revert h; decide
  unfold own_fl; rw [u0, u1, u2, u3, u4, u5, u6, u7, u8, u9, u10, u11, u12, u13, u14, u15]
def own_p0 (f : Int64 → Int32) : List Value := [(.int (f (0 : Int64))), (.int (f (1 : Int64))), (.int (f (2 : Int64))), (.int (f (3 : Int64)))]
theorem own_p0_c {q : Int64} (h : 0 ≤ q.toInt ∧ q.toInt < 4) : q = (0 : Int64) ∨ q = (1 : Int64) ∨ q = (2 : Int64) ∨ q = (3 : Int64) := by
  simp only [← Int64.toInt_inj, Int64.reduceToInt]; omega
theorem own_p0_i {q : Int64} (h : 0 ≤ q.toInt ∧ q.toInt < 4) : (q.toInt32 &&& (3 : Int32)).toInt = q.toInt - 0 := by
  rcases own_p0_c h with rfl | rfl | rfl | rfl <;> decide
theorem own_p0_l {q : Int64} (f : Int64 → Int32) (h : 0 ≤ q.toInt ∧ q.toInt < 4) : (q.toInt32 &&& (3 : Int32)).toNatClampNeg < (own_p0 f).length := by
  rcases own_p0_c h with rfl | rfl | rfl | rfl <;> exact Nat.lt_of_lt_of_eq (by decide : _ < 4) rfl
theorem own_p0_g {q : Int64} (f : Int64 → Int32) (h : 0 ≤ q.toInt ∧ q.toInt < 4) : (own_p0 f).getD (q.toInt32 &&& (3 : Int32)).toNatClampNeg (.int (0 : Int32)) = .int (f q) := by
  rcases own_p0_c h with rfl | rfl | rfl | rfl
  · rw [show ((0 : Int64).toInt32 &&& (3 : Int32)).toNatClampNeg = 0 from by decide]; rfl
  · rw [show ((1 : Int64).toInt32 &&& (3 : Int32)).toNatClampNeg = 1 from by decide]; rfl
  · rw [show ((2 : Int64).toInt32 &&& (3 : Int32)).toNatClampNeg = 2 from by decide]; rfl
  · rw [show ((3 : Int64).toInt32 &&& (3 : Int32)).toNatClampNeg = 3 from by decide]; rfl
theorem own_p0_s {q : Int64} (f : Int64 → Int32) (v : Int32) (h : 0 ≤ q.toInt ∧ q.toInt < 4) : (own_p0 f).set (q.toInt32 &&& (3 : Int32)).toNatClampNeg (.int v) = own_p0 (own_upd f q v) := by
  rcases own_p0_c h with rfl | rfl | rfl | rfl
  · rw [show ((0 : Int64).toInt32 &&& (3 : Int32)).toNatClampNeg = 0 from by decide]; rfl
  · rw [show ((1 : Int64).toInt32 &&& (3 : Int32)).toNatClampNeg = 1 from by decide]; rfl
  · rw [show ((2 : Int64).toInt32 &&& (3 : Int32)).toNatClampNeg = 2 from by decide]; rfl
  · rw [show ((3 : Int64).toInt32 &&& (3 : Int32)).toNatClampNeg = 3 from by decide]; rfl
theorem own_p0_o {q : Int64} (f : Int64 → Int32) (v : Int32) (h : q.toInt < 0 ∨ 4 ≤ q.toInt) : own_p0 (own_upd f q v) = own_p0 f := by
  have u0 : own_upd f q v (0 : Int64) = f (0 : Int64) := if_neg fun e => by rw [← e] at h; revert h; decide
  have u1 : own_upd f q v (1 : Int64) = f (1 : Int64) := if_neg fun e => by rw [← e] at h; revert h; decide
  have u2 : own_upd f q v (2 : Int64) = f (2 : Int64) := if_neg fun e => by rw [← e] at h; revert h; decide
  have u3 : own_upd f q v (3 : Int64) = f (3 : Int64) := if_neg fun e => by rw [← e] at h; revert h; decide
  unfold own_p0; rw [u0, u1, u2, u3]
def own_p1 (f : Int64 → Int32) : List Value := [(.int (f (4 : Int64))), (.int (f (5 : Int64))), (.int (f (6 : Int64))), (.int (f (7 : Int64)))]
theorem own_p1_c {q : Int64} (h : 4 ≤ q.toInt ∧ q.toInt < 8) : q = (4 : Int64) ∨ q = (5 : Int64) ∨ q = (6 : Int64) ∨ q = (7 : Int64) := by
  simp only [← Int64.toInt_inj, Int64.reduceToInt]; omega
theorem own_p1_i {q : Int64} (h : 4 ≤ q.toInt ∧ q.toInt < 8) : (q.toInt32 &&& (3 : Int32)).toInt = q.toInt - 4 := by
  rcases own_p1_c h with rfl | rfl | rfl | rfl <;> decide
theorem own_p1_l {q : Int64} (f : Int64 → Int32) (h : 4 ≤ q.toInt ∧ q.toInt < 8) : (q.toInt32 &&& (3 : Int32)).toNatClampNeg < (own_p1 f).length := by
  rcases own_p1_c h with rfl | rfl | rfl | rfl <;> exact Nat.lt_of_lt_of_eq (by decide : _ < 4) rfl
theorem own_p1_g {q : Int64} (f : Int64 → Int32) (h : 4 ≤ q.toInt ∧ q.toInt < 8) : (own_p1 f).getD (q.toInt32 &&& (3 : Int32)).toNatClampNeg (.int (0 : Int32)) = .int (f q) := by
  rcases own_p1_c h with rfl | rfl | rfl | rfl
  · rw [show ((4 : Int64).toInt32 &&& (3 : Int32)).toNatClampNeg = 0 from by decide]; rfl
  · rw [show ((5 : Int64).toInt32 &&& (3 : Int32)).toNatClampNeg = 1 from by decide]; rfl
  · rw [show ((6 : Int64).toInt32 &&& (3 : Int32)).toNatClampNeg = 2 from by decide]; rfl
  · rw [show ((7 : Int64).toInt32 &&& (3 : Int32)).toNatClampNeg = 3 from by decide]; rfl
theorem own_p1_s {q : Int64} (f : Int64 → Int32) (v : Int32) (h : 4 ≤ q.toInt ∧ q.toInt < 8) : (own_p1 f).set (q.toInt32 &&& (3 : Int32)).toNatClampNeg (.int v) = own_p1 (own_upd f q v) := by
  rcases own_p1_c h with rfl | rfl | rfl | rfl
  · rw [show ((4 : Int64).toInt32 &&& (3 : Int32)).toNatClampNeg = 0 from by decide]; rfl
  · rw [show ((5 : Int64).toInt32 &&& (3 : Int32)).toNatClampNeg = 1 from by decide]; rfl
  · rw [show ((6 : Int64).toInt32 &&& (3 : Int32)).toNatClampNeg = 2 from by decide]; rfl
  · rw [show ((7 : Int64).toInt32 &&& (3 : Int32)).toNatClampNeg = 3 from by decide]; rfl
theorem own_p1_o {q : Int64} (f : Int64 → Int32) (v : Int32) (h : q.toInt < 4 ∨ 8 ≤ q.toInt) : own_p1 (own_upd f q v) = own_p1 f := by
  have u4 : own_upd f q v (4 : Int64) = f (4 : Int64) := if_neg fun e => by rw [← e] at h; revert h; decide
  have u5 : own_upd f q v (5 : Int64) = f (5 : Int64) := if_neg fun e => by rw [← e] at h; revert h; decide
  have u6 : own_upd f q v (6 : Int64) = f (6 : Int64) := if_neg fun e => by rw [← e] at h; revert h; decide
  have u7 : own_upd f q v (7 : Int64) = f (7 : Int64) := if_neg fun e => by rw [← e] at h; revert h; decide
  unfold own_p1; rw [u4, u5, u6, u7]
def own_p2 (f : Int64 → Int32) : List Value := [(.int (f (8 : Int64))), (.int (f (9 : Int64))), (.int (f (10 : Int64))), (.int (f (11 : Int64)))]
theorem own_p2_c {q : Int64} (h : 8 ≤ q.toInt ∧ q.toInt < 12) : q = (8 : Int64) ∨ q = (9 : Int64) ∨ q = (10 : Int64) ∨ q = (11 : Int64) := by
  simp only [← Int64.toInt_inj, Int64.reduceToInt]; omega
theorem own_p2_i {q : Int64} (h : 8 ≤ q.toInt ∧ q.toInt < 12) : (q.toInt32 &&& (3 : Int32)).toInt = q.toInt - 8 := by
  rcases own_p2_c h with rfl | rfl | rfl | rfl <;> decide
theorem own_p2_l {q : Int64} (f : Int64 → Int32) (h : 8 ≤ q.toInt ∧ q.toInt < 12) : (q.toInt32 &&& (3 : Int32)).toNatClampNeg < (own_p2 f).length := by
  rcases own_p2_c h with rfl | rfl | rfl | rfl <;> exact Nat.lt_of_lt_of_eq (by decide : _ < 4) rfl
theorem own_p2_g {q : Int64} (f : Int64 → Int32) (h : 8 ≤ q.toInt ∧ q.toInt < 12) : (own_p2 f).getD (q.toInt32 &&& (3 : Int32)).toNatClampNeg (.int (0 : Int32)) = .int (f q) := by
  rcases own_p2_c h with rfl | rfl | rfl | rfl
  · rw [show ((8 : Int64).toInt32 &&& (3 : Int32)).toNatClampNeg = 0 from by decide]; rfl
  · rw [show ((9 : Int64).toInt32 &&& (3 : Int32)).toNatClampNeg = 1 from by decide]; rfl
  · rw [show ((10 : Int64).toInt32 &&& (3 : Int32)).toNatClampNeg = 2 from by decide]; rfl
  · rw [show ((11 : Int64).toInt32 &&& (3 : Int32)).toNatClampNeg = 3 from by decide]; rfl
theorem own_p2_s {q : Int64} (f : Int64 → Int32) (v : Int32) (h : 8 ≤ q.toInt ∧ q.toInt < 12) : (own_p2 f).set (q.toInt32 &&& (3 : Int32)).toNatClampNeg (.int v) = own_p2 (own_upd f q v) := by
  rcases own_p2_c h with rfl | rfl | rfl | rfl
  · rw [show ((8 : Int64).toInt32 &&& (3 : Int32)).toNatClampNeg = 0 from by decide]; rfl
  · rw [show ((9 : Int64).toInt32 &&& (3 : Int32)).toNatClampNeg = 1 from by decide]; rfl
  · rw [show ((10 : Int64).toInt32 &&& (3 : Int32)).toNatClampNeg = 2 from by decide]; rfl
  · rw [show ((11 : Int64).toInt32 &&& (3 : Int32)).toNatClampNeg = 3 from by decide]; rfl
theorem own_p2_o {q : Int64} (f : Int64 → Int32) (v : Int32) (h : q.toInt < 8 ∨ 12 ≤ q.toInt) : own_p2 (own_upd f q v) = own_p2 f := by
  have u8 : own_upd f q v (8 : Int64) = f (8 : Int64) := if_neg fun e => by rw [← e] at h; revert h; decide
  have u9 : own_upd f q v (9 : Int64) = f (9 : Int64) := if_neg fun e => by rw [← e] at h; revert h; decide
  have u10 : own_upd f q v (10 : Int64) = f (10 : Int64) := if_neg fun e => by rw [← e] at h; revert h; decide
  have u11 : own_upd f q v (11 : Int64) = f (11 : Int64) := if_neg fun e => by rw [← e] at h; revert h; decide
  unfold own_p2; rw [u8, u9, u10, u11]
def own_p3 (f : Int64 → Int32) : List Value := [(.int (f (12 : Int64))), (.int (f (13 : Int64))), (.int (f (14 : Int64))), (.int (f (15 : Int64)))]
theorem own_p3_c {q : Int64} (h : 12 ≤ q.toInt ∧ q.toInt < 16) : q = (12 : Int64) ∨ q = (13 : Int64) ∨ q = (14 : Int64) ∨ q = (15 : Int64) := by
  simp only [← Int64.toInt_inj, Int64.reduceToInt]; omega
theorem own_p3_i {q : Int64} (h : 12 ≤ q.toInt ∧ q.toInt < 16) : (q.toInt32 &&& (3 : Int32)).toInt = q.toInt - 12 := by
  rcases own_p3_c h with rfl | rfl | rfl | rfl <;> decide
theorem own_p3_l {q : Int64} (f : Int64 → Int32) (h : 12 ≤ q.toInt ∧ q.toInt < 16) : (q.toInt32 &&& (3 : Int32)).toNatClampNeg < (own_p3 f).length := by
  rcases own_p3_c h with rfl | rfl | rfl | rfl <;> exact Nat.lt_of_lt_of_eq (by decide : _ < 4) rfl
theorem own_p3_g {q : Int64} (f : Int64 → Int32) (h : 12 ≤ q.toInt ∧ q.toInt < 16) : (own_p3 f).getD (q.toInt32 &&& (3 : Int32)).toNatClampNeg (.int (0 : Int32)) = .int (f q) := by
  rcases own_p3_c h with rfl | rfl | rfl | rfl
  · rw [show ((12 : Int64).toInt32 &&& (3 : Int32)).toNatClampNeg = 0 from by decide]; rfl
  · rw [show ((13 : Int64).toInt32 &&& (3 : Int32)).toNatClampNeg = 1 from by decide]; rfl
  · rw [show ((14 : Int64).toInt32 &&& (3 : Int32)).toNatClampNeg = 2 from by decide]; rfl
  · rw [show ((15 : Int64).toInt32 &&& (3 : Int32)).toNatClampNeg = 3 from by decide]; rfl
theorem own_p3_s {q : Int64} (f : Int64 → Int32) (v : Int32) (h : 12 ≤ q.toInt ∧ q.toInt < 16) : (own_p3 f).set (q.toInt32 &&& (3 : Int32)).toNatClampNeg (.int v) = own_p3 (own_upd f q v) := by
  rcases own_p3_c h with rfl | rfl | rfl | rfl
  · rw [show ((12 : Int64).toInt32 &&& (3 : Int32)).toNatClampNeg = 0 from by decide]; rfl
  · rw [show ((13 : Int64).toInt32 &&& (3 : Int32)).toNatClampNeg = 1 from by decide]; rfl
  · rw [show ((14 : Int64).toInt32 &&& (3 : Int32)).toNatClampNeg = 2 from by decide]; rfl
  · rw [show ((15 : Int64).toInt32 &&& (3 : Int32)).toNatClampNeg = 3 from by decide]; rfl
theorem own_p3_o {q : Int64} (f : Int64 → Int32) (v : Int32) (h : q.toInt < 12 ∨ 16 ≤ q.toInt) : own_p3 (own_upd f q v) = own_p3 f := by
  have u12 : own_upd f q v (12 : Int64) = f (12 : Int64) := if_neg fun e => by rw [← e] at h; revert h; decide
  have u13 : own_upd f q v (13 : Int64) = f (13 : Int64) := if_neg fun e => by rw [← e] at h; revert h; decide
  have u14 : own_upd f q v (14 : Int64) = f (14 : Int64) := if_neg fun e => by rw [← e] at h; revert h; decide
  have u15 : own_upd f q v (15 : Int64) = f (15 : Int64) := if_neg fun e => by rw [← e] at h; revert h; decide
  unfold own_p3; rw [u12, u13, u14, u15]
theorem own_p0_p {q : Int64} (h : 0 ≤ q.toInt ∧ q.toInt < 4) : ((q.toUInt64 >>> ((2 : Int32) &&& 0x3f).toInt64.toUInt64).toInt64).toInt32 = (0 : Int32) := by
  rcases own_p0_c h with rfl | rfl | rfl | rfl <;> decide
theorem own_p1_p {q : Int64} (h : 4 ≤ q.toInt ∧ q.toInt < 8) : ((q.toUInt64 >>> ((2 : Int32) &&& 0x3f).toInt64.toUInt64).toInt64).toInt32 = (1 : Int32) := by
  rcases own_p1_c h with rfl | rfl | rfl | rfl <;> decide
theorem own_p2_p {q : Int64} (h : 8 ≤ q.toInt ∧ q.toInt < 12) : ((q.toUInt64 >>> ((2 : Int32) &&& 0x3f).toInt64.toUInt64).toInt64).toInt32 = (2 : Int32) := by
  rcases own_p2_c h with rfl | rfl | rfl | rfl <;> decide
theorem own_p3_p {q : Int64} (h : 12 ≤ q.toInt ∧ q.toInt < 16) : ((q.toUInt64 >>> ((2 : Int32) &&& 0x3f).toInt64.toUInt64).toInt64).toInt32 = (3 : Int32) := by
  rcases own_p3_c h with rfl | rfl | rfl | rfl <;> decide
theorem own_rem {x n : Int64} (hn : 1 ≤ n.toInt) : 0 ≤ ((x &&& (9223372036854775807 : Int64)) - (x &&& (9223372036854775807 : Int64)) / n * n).toInt ∧ ((x &&& (9223372036854775807 : Int64)) - (x &&& (9223372036854775807 : Int64)) / n * n).toInt < n.toInt := by
  have h := c_maskL x 9223372036854775807 63 (by decide) (by decide)
  have h2 := (c_lrem (x &&& (9223372036854775807 : Int64)) n n.toInt rfl).1 (by rw [h]; omega)
  rw [h2]; exact ⟨Int.emod_nonneg _ (by omega), Int.emod_lt_of_pos _ (by omega)⟩
theorem own_nn (p : Int32) : 1 ≤ ((1 : Int32) + ((p.toUInt32 >>> ((1 : Int32) &&& 31).toUInt32).toInt32 &&& (15 : Int32))).toInt64.toInt ∧ ((1 : Int32) + ((p.toUInt32 >>> ((1 : Int32) &&& 31).toUInt32).toInt32 &&& (15 : Int32))).toInt64.toInt ≤ 16 := by
  generalize (p.toUInt32 >>> ((1 : Int32) &&& 31).toUInt32).toInt32 = y
  rw [c_i2l]
  have h := c_mask y 15 4 (by decide) (by decide)
  have h2 := c_iadd 1 (y &&& 15); have r := rng32 (1 + (y &&& 15))
  have h3 : (1 : Int32).toInt = 1 := by decide
  omega
theorem own_ne0 {n : Int64} (h : 1 ≤ n.toInt) : n ≠ 0 := fun e => by rw [e] at h; revert h; decide
theorem own_ln {L X q : Int64} {z : Int32} (x : Int) (hX : X.toInt = x) (l : Int) (hL : L.toInt = l) (h0 : 0 ≤ x) (h1 : x ≤ q.toInt) (h2 : q.toInt ≤ 16) (h3 : 0 ≤ l ∧ l < 2147483648) (hz : (l ≤ q.toInt - x ∧ z.toInt = l) ∨ (q.toInt - x ≤ l ∧ z.toInt = q.toInt - x)) : (own_min L (q - X)).toInt32 = z := by
  have e := c_lsub q X; have r := rng64 (q - X)
  apply Int32.toInt_inj.mp
  unfold own_min
  split
  · rename_i hh; rw [Int64.lt_iff_toInt_lt] at hh
    have g := c_l2i (q - X); have r2 := rng32 (q - X).toInt32; omega
  · rename_i hh; rw [Int64.lt_iff_toInt_lt] at hh
    have g := c_l2i L; have r2 := rng32 L.toInt32; omega
theorem own_ex {n : Int64} (k : Int) (hk : 0 ≤ k ∧ k ≤ 100) (h : k < n.toInt ∧ n.toInt ≤ k + 16) : ∃ z : Int32, n.toInt = k + z.toInt :=
  ⟨Int32.ofInt (n.toInt - k), by rw [Int32.toInt_ofInt_of_le (by omega) (by omega)]; omega⟩
theorem own_cn {q : Int64} {a s : Int32} {r : Int64} (a' : Int) (ha : a.toInt = a') (k : Nat) (hk : s.toBitVec.toNat % 64 = k) (k0 : 0 < k) (h : 0 ≤ q.toInt ∧ q.toInt ≤ 16 ∧ 0 ≤ a') (hr : (q.toInt + a') / (2 ^ k : Nat) = r.toInt) : ((q + (a.toInt64)).toUInt64 >>> (s &&& 0x3f).toInt64.toUInt64).toInt64 = r := by
  apply Int64.toInt_inj.mp
  rw [c_lushr _ _ k hk k0]
  have e := c_ladd q a.toInt64; rw [c_i2l] at e; have r := rng64 (q + a.toInt64); have r2 := rng32 a
  rw [← hr, show (q + a.toInt64).toInt % 18446744073709551616 = q.toInt + a' from by omega]
theorem d6_0 : decode jdk_29_method_70_code 0 = .ok (.lload_n 0, 1) := by decide +kernel
theorem d6_1 : decode jdk_29_method_70_code 1 = .ok (.lload_n 2, 1) := by decide +kernel
theorem d6_2 : decode jdk_29_method_70_code 2 = .ok (.lcmp, 1) := by decide +kernel
theorem d6_3 : decode jdk_29_method_70_code 3 = .ok (.ifCond .gt 7, 3) := by decide +kernel
theorem d6_6 : decode jdk_29_method_70_code 6 = .ok (.lload_n 0, 1) := by decide +kernel
theorem d6_7 : decode jdk_29_method_70_code 7 = .ok (.goto 4, 3) := by decide +kernel
theorem d6_10 : decode jdk_29_method_70_code 10 = .ok (.lload_n 2, 1) := by decide +kernel
theorem d6_11 : decode jdk_29_method_70_code 11 = .ok (.lreturn, 1) := by decide +kernel
theorem ef_6_JJ (m : MethodId) (x0 : Int64) (x1 : Int64) : entryFrame m #[(.long x0), (.long x1)] 4 = mkF m 0 #[.val (.long x0), .second, .val (.long x1), .second] [] := by first | (simp [entryFrame, mkF, argsToLocals, Value.category]; done) | rfl
set_option maxRecDepth 65536 in
set_option maxHeartbeats 40000000 in
theorem rm_min (l : Launch) (Z : State) (a0 : Array Value) (hw : ∀ d ∈ tables_1, d.before a0 Z = true) (q1 : Int64) (q2 : Int64) (h0 : Heap) (n0 : Nat)  :
    own_Met l Z (⟨"java/lang/Math", "min", "(JJ)J"⟩ : MethodName) jdk_29_method_70_code 4 (some .long) ({ frames := 0, cells := 0, slots := 0, locals := 0 } : Room) #[(.long q1), (.long q2)] h0 (fun v h L => v = some (.long (own_min q1 q2)) ∧ Fr n0 L ∧ h = h0) := by
  intro ws
  refine MetFree.of_bodySF (Jvm.Free.JP.mathPlain rfl (by decide +kernel)) hisR ?_
  intro p e s m args below meth c s₁ Bd hml0 hP hK
  obtain ⟨rfl, hZ, hh⟩ := hP
  have hx := Bd.exec
  have hby := Bd.bytes
  have hml : c.maxLocals = 4 := hml0
  have hown : s.vm.findClass "java/lang/Math" = some m.cls := findClass_of_methodNamed Bd.named
  have hnm := (name_of_methodNamed Bd.named Bd.method).1
  have hlk : meth.locks = false := Bd.notSynchronized
  have X0 : Stand p l e ({ frames := 0, cells := 0, slots := 0, locals := 0 } : Room) s m #[(.long q1), (.long q2)] below meth c s₁ [] 0 0 := Stand.of_body Bd
  have e0 : s₁.heap = h0 := by rw [← hh, Bd.state]; rfl
  have N0 := Fr.nil n0
  refine own_body (Q := fun v h L => v = some (.long (own_min q1 q2)) ∧ Fr n0 L ∧ h = h0) ?_
  generalize hΦ : own_Fin s below _ _ _ = Φ
  refine own_cast (ef_6_JJ m q1 q2) ?_
  show own_Run p e below Φ (s₁.setTop (mkF m 0 #[.val (.long q1), .second, .val (.long q2), .second] []))
  refine own_go (fun t k => XS.lloadN X0.here hx rfl (hb hby d6_0) rfl  k) ?_
  refine own_go (fun t k => XS.lloadN X0.here hx rfl (hb hby d6_1) rfl  k) ?_
  refine own_go (fun t k => XS.lcmp X0.here hx rfl (hb hby d6_2) rfl k) ?_
  by_cases hc3 : (0 : Int32) < (lcmpW q1 q2)
  · refine own_go (fun t k => XS.ifYes X0.here hx rfl (pc0 := 3) (pc' := 10) rfl (hb hby d6_3) rfl ((if0 _ _).trans (tlt hc3).2.2.1) (by decide) (by decide) k) ?_
    refine own_go (fun t k => XS.lloadN X0.here hx rfl (hb hby d6_10) rfl  k) ?_
    show own_Run p e below Φ (s₁.setTop (mkF m 11 #[.val (.long q1), .second, .val (.long q2), .second] [(.long q2)]))
    subst hΦ
    exact own_retO X0 hx (t := .long) Bd.returns rfl (Or.inr (Or.inl ⟨rfl, rfl, _, rfl⟩)) hlk (hb hby d6_11) e0 ⟨(by unfold own_min; rw [if_pos ((lw_gt _ _).mp hc3)]), N0, rfl⟩ (by decide) (by decide)
  · refine own_go (fun t k => XS.ifNo X0.here hx rfl (hb hby d6_3) rfl ((if0 _ _).trans (flt hc3).2.2.1) k) ?_
    refine own_go (fun t k => XS.lloadN X0.here hx rfl (hb hby d6_6) rfl  k) ?_
    refine own_go (fun t k => XS.goto X0.here hx rfl (pc0 := 7) (pc' := 11) rfl (hb hby d6_7) (by decide) (by decide) k) ?_
    subst hΦ
    exact own_retO X0 hx (t := .long) Bd.returns rfl (Or.inr (Or.inl ⟨rfl, rfl, _, rfl⟩)) hlk (hb hby d6_11) e0 ⟨(by unfold own_min; rw [if_neg (mt (lw_gt _ _).mpr hc3)]), N0, rfl⟩ (by decide) (by decide)
theorem d4_0 : decode prog_46_method_6_code 0 = .ok (.lload_n 1, 1) := by decide +kernel
theorem d4_1 : decode prog_46_method_6_code 1 = .ok (.aload_n 0, 1) := by decide +kernel
theorem d4_2 : decode prog_46_method_6_code 2 = .ok (.getfield 16, 3) := by decide +kernel
theorem d4_5 : decode prog_46_method_6_code 5 = .ok (.i2l, 1) := by decide +kernel
theorem d4_6 : decode prog_46_method_6_code 6 = .ok (.ladd, 1) := by decide +kernel
theorem d4_7 : decode prog_46_method_6_code 7 = .ok (.aload_n 0, 1) := by decide +kernel
theorem d4_8 : decode prog_46_method_6_code 8 = .ok (.getfield 7, 3) := by decide +kernel
theorem d4_11 : decode prog_46_method_6_code 11 = .ok (.lushr, 1) := by decide +kernel
theorem d4_12 : decode prog_46_method_6_code 12 = .ok (.lstore_n 3, 1) := by decide +kernel
theorem d4_13 : decode prog_46_method_6_code 13 = .ok (.lload_n 1, 1) := by decide +kernel
theorem d4_14 : decode prog_46_method_6_code 14 = .ok (.lconst 0, 1) := by decide +kernel
theorem d4_15 : decode prog_46_method_6_code 15 = .ok (.lcmp, 1) := by decide +kernel
theorem d4_16 : decode prog_46_method_6_code 16 = .ok (.ifCond .lt 11, 3) := by decide +kernel
theorem d4_19 : decode prog_46_method_6_code 19 = .ok (.lload_n 3, 1) := by decide +kernel
theorem d4_20 : decode prog_46_method_6_code 20 = .ok (.ldc2_w 61, 3) := by decide +kernel
theorem d4_23 : decode prog_46_method_6_code 23 = .ok (.lcmp, 1) := by decide +kernel
theorem d4_24 : decode prog_46_method_6_code 24 = .ok (.ifCond .le 17, 3) := by decide +kernel
theorem d4_41 : decode prog_46_method_6_code 41 = .ok (.lload_n 3, 1) := by decide +kernel
theorem d4_42 : decode prog_46_method_6_code 42 = .ok (.l2i, 1) := by decide +kernel
theorem d4_43 : decode prog_46_method_6_code 43 = .ok (.ireturn, 1) := by decide +kernel
theorem pn_c3 : plainName "com/example/hueline/hueline/model/Pages" = true := by first | (simp [plainName, overriddenIn]; done) | decide +kernel
theorem ef_4_RJ (m : MethodId) (x0 : Addr) (x1 : Int64) : entryFrame m #[(.ref x0), (.long x1)] 5 = mkF m 0 #[.val (.ref x0), .val (.long x1), .second, .unset, .unset] [] := by first | (simp [entryFrame, mkF, argsToLocals, Value.category]; done) | rfl
set_option maxRecDepth 65536 in
set_option maxHeartbeats 40000000 in
theorem rm_cnt (l : Launch) (Z : State) (a0 : Array Value) (hw : ∀ d ∈ tables_1, d.before a0 Z = true) (a1 : Addr) (q1 : Int64) (m2 : Int32) (s2 : Int32) (c2 : Int64) (r2 : Int32) (h0 : Heap) (n0 : Nat) (H1 : Fld Z h0 a1 "com/example/hueline/hueline/model/Pages" "mask" "I" (.int m2)) (H2 : Fld Z h0 a1 "com/example/hueline/hueline/model/Pages" "shift" "I" (.int s2)) (hA : 0 ≤ q1.toInt) (hE : (((q1 + (m2.toInt64)).toUInt64 >>> (s2 &&& 0x3f).toInt64.toUInt64).toInt64) = c2) (hB : c2.toInt ≤ 2147483639) (hR : c2.toInt32 = r2) :
    own_Met l Z (⟨"com/example/hueline/hueline/model/Pages", "count", "(J)I"⟩ : MethodName) prog_46_method_6_code 5 (some .int) ({ frames := 0, cells := 0, slots := 0, locals := 0 } : Room) #[(.ref a1), (.long q1)] h0 (fun v h L => v = some (.int r2) ∧ Fr n0 L ∧ h = h0) := by
  intro ws
  refine MetFree.of_bodySF (plainFor_of_name pn_c3) hisR ?_
  intro p e s m args below meth c s₁ Bd hml0 hP hK
  obtain ⟨rfl, hZ, hh⟩ := hP
  have hx := Bd.exec
  have hby := Bd.bytes
  have hml : c.maxLocals = 5 := hml0
  have hown : s.vm.findClass "com/example/hueline/hueline/model/Pages" = some m.cls := findClass_of_methodNamed Bd.named
  have hnm := (name_of_methodNamed Bd.named Bd.method).1
  have hlk : meth.locks = false := Bd.notSynchronized
  have X0 : Stand p l e ({ frames := 0, cells := 0, slots := 0, locals := 0 } : Room) s m #[(.ref a1), (.long q1)] below meth c s₁ [] 0 0 := Stand.of_body Bd
  have e0 : s₁.heap = h0 := by rw [← hh, Bd.state]; rfl
  have N0 := Fr.nil n0
  refine own_body (Q := fun v h L => v = some (.int r2) ∧ Fr n0 L ∧ h = h0) ?_
  generalize hΦ : own_Fin s below _ _ _ = Φ
  refine own_cast (ef_4_RJ m a1 q1) ?_
  show own_Run p e below Φ (s₁.setTop (mkF m 0 #[.val (.ref a1), .val (.long q1), .second, .unset, .unset] []))
  refine own_go (fun t k => XS.lloadN X0.here hx rfl (hb hby d4_0) rfl  k) ?_
  refine own_go (fun t k => XS.aloadN X0.here hx rfl (hb hby d4_1) rfl rfl  k) ?_
  obtain ⟨T1, X1, e1, st1⟩ := getF X0 hx hZ hown (host := "") (Or.inl (hw _ (List.mem_of_getElem? (i := 23) rfl))) Via.refl e0 H1 (g := (mkF m 2 #[.val (.ref a1), .val (.long q1), .second, .unset, .unset] [(.ref a1), (.long q1)])) rfl rfl (hb hby d4_2)
  refine own_go st1 ?_
  refine own_go (fun t k => XS.i2l X1.here hx rfl (hb hby d4_5) rfl k) ?_
  refine own_go (fun t k => XS.ladd X1.here hx rfl (hb hby d4_6) rfl k) ?_
  show own_Run p e below Φ (T1.setTop (mkF m 7 #[.val (.ref a1), .val (.long q1), .second, .unset, .unset] [(.long (q1 + (m2.toInt64)))]))
  refine own_go (fun t k => XS.aloadN X1.here hx rfl (hb hby d4_7) rfl rfl  k) ?_
  obtain ⟨T2, X2, e2, st2⟩ := getF X1 hx hZ hown (host := "") (Or.inl (hw _ (List.mem_of_getElem? (i := 25) rfl))) Via.refl e1 H2 (g := (mkF m 8 #[.val (.ref a1), .val (.long q1), .second, .unset, .unset] [(.ref a1), (.long (q1 + (m2.toInt64)))])) rfl rfl (hb hby d4_8)
  refine own_go st2 ?_
  refine own_go (fun t k => XS.lushr X2.here hx rfl (hb hby d4_11) rfl k) ?_
  refine own_go (fun t k => XS.lstoreN X2.here hx rfl (hb hby d4_12) rfl (l' := #[.val (.ref a1), .val (.long q1), .second, .val (.long (((q1 + (m2.toInt64)).toUInt64 >>> (s2 &&& 0x3f).toInt64.toUInt64).toInt64)), .second]) rfl k) ?_
  show own_Run p e below Φ (T2.setTop (mkF m 13 #[.val (.ref a1), .val (.long q1), .second, .val (.long (((q1 + (m2.toInt64)).toUInt64 >>> (s2 &&& 0x3f).toInt64.toUInt64).toInt64)), .second] []))
  rw [show (((q1 + (m2.toInt64)).toUInt64 >>> (s2 &&& 0x3f).toInt64.toUInt64).toInt64) = c2 from hE]
  show own_Run p e below Φ (T2.setTop (mkF m 13 #[.val (.ref a1), .val (.long q1), .second, .val (.long c2), .second] []))
  refine own_go (fun t k => XS.lloadN X2.here hx rfl (hb hby d4_13) rfl  k) ?_
  refine own_go (fun t k => XS.lconst X2.here hx rfl (hb hby d4_14) k) ?_
  refine own_go (fun t k => XS.lcmp X2.here hx rfl (hb hby d4_15) rfl k) ?_
  have hc16 : ¬ ((lcmpW q1 (0 : Int64)) < (0 : Int32)) := (fun q => by have := (lw_lt _ _).mp q; rw [Int64.lt_iff_toInt_lt] at this; simp only [Int64.reduceToInt] at this; omega)
  refine own_go (fun t k => XS.ifNo X2.here hx rfl (hb hby d4_16) rfl ((if0 _ _).trans (flt hc16).1) k) ?_
  refine own_go (fun t k => XS.lloadN X2.here hx rfl (hb hby d4_19) rfl  k) ?_
  show own_Run p e below Φ (T2.setTop (mkF m 20 #[.val (.ref a1), .val (.long q1), .second, .val (.long c2), .second] [(.long c2)]))
  refine own_go (X2.ldc2Long hx hown (mvT hZ (hw _ (List.mem_of_getElem? (i := 27) rfl))) (g := (mkF m 20 #[.val (.ref a1), .val (.long q1), .second, .val (.long c2), .second] [(.long c2)])) rfl (hb hby d4_20)) ?_
  refine own_go (fun t k => XS.lcmp X2.here hx rfl (hb hby d4_23) rfl k) ?_
  have hc24 : ¬ ((0 : Int32) < (lcmpW c2 (2147483639 : Int64))) := (fun q => by have := (lw_gt _ _).mp q; rw [Int64.lt_iff_toInt_lt] at this; simp only [Int64.reduceToInt] at this; omega)
  refine own_go (fun t k => XS.ifYes X2.here hx rfl (pc0 := 24) (pc' := 41) rfl (hb hby d4_24) rfl ((if0 _ _).trans (flt hc24).2.2.2) (by decide) (by decide) k) ?_
  refine own_go (fun t k => XS.lloadN X2.here hx rfl (hb hby d4_41) rfl  k) ?_
  refine own_go (fun t k => XS.l2i X2.here hx rfl (hb hby d4_42) rfl k) ?_
  show own_Run p e below Φ (T2.setTop (mkF m 43 #[.val (.ref a1), .val (.long q1), .second, .val (.long c2), .second] [(.int (c2.toInt32))]))
  subst hΦ
  exact own_retI X2 hx Bd.returns hlk (hb hby d4_43) e2 ⟨(by rw [hR]), N0, rfl⟩ (by decide) (by decide)
theorem d5_0 : decode prog_46_method_7_code 0 = .ok (.aload_n 0, 1) := by decide +kernel
theorem d5_1 : decode prog_46_method_7_code 1 = .ok (.getfield 13, 3) := by decide +kernel
theorem d5_4 : decode prog_46_method_7_code 4 = .ok (.i2l, 1) := by decide +kernel
theorem d5_5 : decode prog_46_method_7_code 5 = .ok (.lload_n 1, 1) := by decide +kernel
theorem d5_6 : decode prog_46_method_7_code 6 = .ok (.iload_n 3, 1) := by decide +kernel
theorem d5_7 : decode prog_46_method_7_code 7 = .ok (.i2l, 1) := by decide +kernel
theorem d5_8 : decode prog_46_method_7_code 8 = .ok (.aload_n 0, 1) := by decide +kernel
theorem d5_9 : decode prog_46_method_7_code 9 = .ok (.getfield 7, 3) := by decide +kernel
theorem d5_12 : decode prog_46_method_7_code 12 = .ok (.lshl, 1) := by decide +kernel
theorem d5_13 : decode prog_46_method_7_code 13 = .ok (.lsub, 1) := by decide +kernel
theorem d5_14 : decode prog_46_method_7_code 14 = .ok (.invokestatic 44, 3) := by decide +kernel
theorem d5_17 : decode prog_46_method_7_code 17 = .ok (.l2i, 1) := by decide +kernel
theorem d5_18 : decode prog_46_method_7_code 18 = .ok (.ireturn, 1) := by decide +kernel
theorem pd_5 : parseMethodDescriptor "(JJ)J" = some ⟨[.long, .long], some .long⟩ := by decide +kernel
theorem ef_5_RJI (m : MethodId) (x0 : Addr) (x1 : Int64) (x2 : Int32) : entryFrame m #[(.ref x0), (.long x1), (.int x2)] 4 = mkF m 0 #[.val (.ref x0), .val (.long x1), .second, .val (.int x2)] [] := by first | (simp [entryFrame, mkF, argsToLocals, Value.category]; done) | rfl
set_option maxRecDepth 65536 in
set_option maxHeartbeats 40000000 in
theorem rm_len (l : Launch) (Z : State) (a0 : Array Value) (hw : ∀ d ∈ tables_1, d.before a0 Z = true) (a1 : Addr) (q1 : Int64) (p3 : Int32) (l2 : Int32) (s2 : Int32) (r2 : Int32) (h0 : Heap) (n0 : Nat) (H1 : Fld Z h0 a1 "com/example/hueline/hueline/model/Pages" "length" "I" (.int l2)) (H2 : Fld Z h0 a1 "com/example/hueline/hueline/model/Pages" "shift" "I" (.int s2)) (hR : (own_min (l2.toInt64) (q1 - ((p3.toInt64) <<< (s2 &&& 0x3f).toInt64))).toInt32 = r2) :
    own_Met l Z (⟨"com/example/hueline/hueline/model/Pages", "length", "(JI)I"⟩ : MethodName) prog_46_method_7_code 4 (some .int) ({ frames := 1, cells := 0, slots := 0, locals := 15 } : Room) #[(.ref a1), (.long q1), (.int p3)] h0 (fun v h L => v = some (.int r2) ∧ Fr n0 L ∧ h = h0) := by
  intro ws
  refine MetFree.of_bodySF (plainFor_of_name pn_c3) hisR ?_
  intro p e s m args below meth c s₁ Bd hml0 hP hK
  obtain ⟨rfl, hZ, hh⟩ := hP
  have hx := Bd.exec
  have hby := Bd.bytes
  have hml : c.maxLocals = 4 := hml0
  have hown : s.vm.findClass "com/example/hueline/hueline/model/Pages" = some m.cls := findClass_of_methodNamed Bd.named
  have hnm := (name_of_methodNamed Bd.named Bd.method).1
  have hlk : meth.locks = false := Bd.notSynchronized
  have X0 : Stand p l e ({ frames := 1, cells := 0, slots := 0, locals := 15 } : Room) s m #[(.ref a1), (.long q1), (.int p3)] below meth c s₁ [] 0 0 := Stand.of_body Bd
  have e0 : s₁.heap = h0 := by rw [← hh, Bd.state]; rfl
  have N0 := Fr.nil n0
  refine own_body (Q := fun v h L => v = some (.int r2) ∧ Fr n0 L ∧ h = h0) ?_
  generalize hΦ : own_Fin s below _ _ _ = Φ
  refine own_cast (ef_5_RJI m a1 q1 p3) ?_
  show own_Run p e below Φ (s₁.setTop (mkF m 0 #[.val (.ref a1), .val (.long q1), .second, .val (.int p3)] []))
  refine own_go (fun t k => XS.aloadN X0.here hx rfl (hb hby d5_0) rfl rfl  k) ?_
  obtain ⟨T1, X1, e1, st1⟩ := getF X0 hx hZ hown (host := "") (Or.inl (hw _ (List.mem_of_getElem? (i := 39) rfl))) Via.refl e0 H1 (g := (mkF m 1 #[.val (.ref a1), .val (.long q1), .second, .val (.int p3)] [(.ref a1)])) rfl rfl (hb hby d5_1)
  refine own_go st1 ?_
  refine own_go (fun t k => XS.i2l X1.here hx rfl (hb hby d5_4) rfl k) ?_
  refine own_go (fun t k => XS.lloadN X1.here hx rfl (hb hby d5_5) rfl  k) ?_
  refine own_go (fun t k => XS.iloadN X1.here hx rfl (hb hby d5_6) rfl  k) ?_
  show own_Run p e below Φ (T1.setTop (mkF m 7 #[.val (.ref a1), .val (.long q1), .second, .val (.int p3)] [(.int p3), (.long q1), (.long (l2.toInt64))]))
  refine own_go (fun t k => XS.i2l X1.here hx rfl (hb hby d5_7) rfl k) ?_
  refine own_go (fun t k => XS.aloadN X1.here hx rfl (hb hby d5_8) rfl rfl  k) ?_
  obtain ⟨T2, X2, e2, st2⟩ := getF X1 hx hZ hown (host := "") (Or.inl (hw _ (List.mem_of_getElem? (i := 25) rfl))) Via.refl e1 H2 (g := (mkF m 9 #[.val (.ref a1), .val (.long q1), .second, .val (.int p3)] [(.ref a1), (.long (p3.toInt64)), (.long q1), (.long (l2.toInt64))])) rfl rfl (hb hby d5_9)
  refine own_go st2 ?_
  refine own_go (fun t k => XS.lshl X2.here hx rfl (hb hby d5_12) rfl k) ?_
  refine own_go (fun t k => XS.lsub X2.here hx rfl (hb hby d5_13) rfl k) ?_
  show own_Run p e below Φ (T2.setTop (mkF m 14 #[.val (.ref a1), .val (.long q1), .second, .val (.int p3)] [(.long (q1 - ((p3.toInt64) <<< (s2 &&& 0x3f).toInt64))), (.long (l2.toInt64))]))
  refine own_callS X2 hx hZ (y := (⟨"java/lang/Math", "min", "(JJ)J"⟩ : MethodName)) (W := 0) (argsL := [(.long (l2.toInt64)), (.long (q1 - ((p3.toInt64) <<< (s2 &&& 0x3f).toInt64)))]) (rest := []) hown (hw _ (List.mem_of_getElem? (i := 41) rfl)) (hw _ (List.mem_of_getElem? (i := 42) rfl)) (hw _ (List.mem_of_getElem? (i := 43) rfl)) (hw _ (List.mem_of_getElem? (i := 44) rfl)) (by decide) (own_bk (rm_min l Z a0 hw (l2.toInt64) (q1 - ((p3.toInt64) <<< (s2 &&& 0x3f).toInt64)) h0 n0 ) hZ (hw _ (List.mem_of_getElem? (i := 44) rfl)) (hw _ (List.mem_of_getElem? (i := 43) rfl)) (by decide) (by decide)) e2 (g := (mkF m 14 #[.val (.ref a1), .val (.long q1), .second, .val (.int p3)] [(.long (q1 - ((p3.toInt64) <<< (s2 &&& 0x3f).toInt64))), (.long (l2.toInt64))])) rfl (by rw [hml]; rfl) (lenOf pd_5 rfl) rfl (by show 2 * 0 + _ ≤ _; exact Nat.le_of_eq rfl) (hb hby d5_14) (by decide) (by decide) (fun v3 T3 h3 L3 X3 e3 q3 => ?_)
  obtain ⟨rfl, M3, s3⟩ := q3
  replace e3 : T3.heap = h0 := e3.trans s3
  have N3 := Fr.app N0 M3
  refine own_go (fun t k => XS.l2i X3.here hx rfl (hb hby d5_17) rfl k) ?_
  subst hΦ
  exact own_retI X3 hx Bd.returns hlk (hb hby d5_18) e3 ⟨(by rw [hR]), N3, rfl⟩ (by decide) (by decide)
theorem d11_0 : decode prog_46_method_3_code 0 = .ok (.lload_n 1, 1) := by decide +kernel
theorem d11_1 : decode prog_46_method_3_code 1 = .ok (.aload_n 0, 1) := by decide +kernel
theorem d11_2 : decode prog_46_method_3_code 2 = .ok (.getfield 7, 3) := by decide +kernel
theorem d11_5 : decode prog_46_method_3_code 5 = .ok (.lushr, 1) := by decide +kernel
theorem d11_6 : decode prog_46_method_3_code 6 = .ok (.l2i, 1) := by decide +kernel
theorem d11_7 : decode prog_46_method_3_code 7 = .ok (.ireturn, 1) := by decide +kernel
theorem ef_11_RJ (m : MethodId) (x0 : Addr) (x1 : Int64) : entryFrame m #[(.ref x0), (.long x1)] 3 = mkF m 0 #[.val (.ref x0), .val (.long x1), .second] [] := by first | (simp [entryFrame, mkF, argsToLocals, Value.category]; done) | rfl
set_option maxRecDepth 65536 in
set_option maxHeartbeats 40000000 in
theorem rm_pag (l : Launch) (Z : State) (a0 : Array Value) (hw : ∀ d ∈ tables_1, d.before a0 Z = true) (a1 : Addr) (q1 : Int64) (h0 : Heap) (n0 : Nat) (H1 : Fld Z h0 a1 "com/example/hueline/hueline/model/Pages" "shift" "I" (.int (2 : Int32))) :
    own_Met l Z (⟨"com/example/hueline/hueline/model/Pages", "page", "(J)I"⟩ : MethodName) prog_46_method_3_code 3 (some .int) ({ frames := 0, cells := 0, slots := 0, locals := 0 } : Room) #[(.ref a1), (.long q1)] h0 (fun v h L => v = some (.int (((q1.toUInt64 >>> ((2 : Int32) &&& 0x3f).toInt64.toUInt64).toInt64).toInt32)) ∧ Fr n0 L ∧ h = h0) := by
  intro ws
  refine MetFree.of_bodySF (plainFor_of_name pn_c3) hisR ?_
  intro p e s m args below meth c s₁ Bd hml0 hP hK
  obtain ⟨rfl, hZ, hh⟩ := hP
  have hx := Bd.exec
  have hby := Bd.bytes
  have hml : c.maxLocals = 3 := hml0
  have hown : s.vm.findClass "com/example/hueline/hueline/model/Pages" = some m.cls := findClass_of_methodNamed Bd.named
  have hnm := (name_of_methodNamed Bd.named Bd.method).1
  have hlk : meth.locks = false := Bd.notSynchronized
  have X0 : Stand p l e ({ frames := 0, cells := 0, slots := 0, locals := 0 } : Room) s m #[(.ref a1), (.long q1)] below meth c s₁ [] 0 0 := Stand.of_body Bd
  have e0 : s₁.heap = h0 := by rw [← hh, Bd.state]; rfl
  have N0 := Fr.nil n0
  refine own_body (Q := fun v h L => v = some (.int (((q1.toUInt64 >>> ((2 : Int32) &&& 0x3f).toInt64.toUInt64).toInt64).toInt32)) ∧ Fr n0 L ∧ h = h0) ?_
  generalize hΦ : own_Fin s below _ _ _ = Φ
  refine own_cast (ef_11_RJ m a1 q1) ?_
  show own_Run p e below Φ (s₁.setTop (mkF m 0 #[.val (.ref a1), .val (.long q1), .second] []))
  refine own_go (fun t k => XS.lloadN X0.here hx rfl (hb hby d11_0) rfl  k) ?_
  refine own_go (fun t k => XS.aloadN X0.here hx rfl (hb hby d11_1) rfl rfl  k) ?_
  obtain ⟨T1, X1, e1, st1⟩ := getF X0 hx hZ hown (host := "") (Or.inl (hw _ (List.mem_of_getElem? (i := 25) rfl))) Via.refl e0 H1 (g := (mkF m 2 #[.val (.ref a1), .val (.long q1), .second] [(.ref a1), (.long q1)])) rfl rfl (hb hby d11_2)
  refine own_go st1 ?_
  refine own_go (fun t k => XS.lushr X1.here hx rfl (hb hby d11_5) rfl k) ?_
  refine own_go (fun t k => XS.l2i X1.here hx rfl (hb hby d11_6) rfl k) ?_
  show own_Run p e below Φ (T1.setTop (mkF m 7 #[.val (.ref a1), .val (.long q1), .second] [(.int (((q1.toUInt64 >>> ((2 : Int32) &&& 0x3f).toInt64.toUInt64).toInt64).toInt32))]))
  subst hΦ
  exact own_retI X1 hx Bd.returns hlk (hb hby d11_7) e1 ⟨rfl, N0, rfl⟩ (by decide) (by decide)
theorem d12_0 : decode prog_46_method_4_code 0 = .ok (.lload_n 1, 1) := by decide +kernel
theorem d12_1 : decode prog_46_method_4_code 1 = .ok (.l2i, 1) := by decide +kernel
theorem d12_2 : decode prog_46_method_4_code 2 = .ok (.aload_n 0, 1) := by decide +kernel
theorem d12_3 : decode prog_46_method_4_code 3 = .ok (.getfield 16, 3) := by decide +kernel
theorem d12_6 : decode prog_46_method_4_code 6 = .ok (.iand, 1) := by decide +kernel
theorem d12_7 : decode prog_46_method_4_code 7 = .ok (.ireturn, 1) := by decide +kernel
theorem ef_12_RJ (m : MethodId) (x0 : Addr) (x1 : Int64) : entryFrame m #[(.ref x0), (.long x1)] 3 = mkF m 0 #[.val (.ref x0), .val (.long x1), .second] [] := by first | (simp [entryFrame, mkF, argsToLocals, Value.category]; done) | rfl
set_option maxRecDepth 65536 in
set_option maxHeartbeats 40000000 in
theorem rm_off (l : Launch) (Z : State) (a0 : Array Value) (hw : ∀ d ∈ tables_1, d.before a0 Z = true) (a1 : Addr) (q1 : Int64) (h0 : Heap) (n0 : Nat) (H1 : Fld Z h0 a1 "com/example/hueline/hueline/model/Pages" "mask" "I" (.int (3 : Int32))) :
    own_Met l Z (⟨"com/example/hueline/hueline/model/Pages", "offset", "(J)I"⟩ : MethodName) prog_46_method_4_code 3 (some .int) ({ frames := 0, cells := 0, slots := 0, locals := 0 } : Room) #[(.ref a1), (.long q1)] h0 (fun v h L => v = some (.int ((q1.toInt32) &&& (3 : Int32))) ∧ Fr n0 L ∧ h = h0) := by
  intro ws
  refine MetFree.of_bodySF (plainFor_of_name pn_c3) hisR ?_
  intro p e s m args below meth c s₁ Bd hml0 hP hK
  obtain ⟨rfl, hZ, hh⟩ := hP
  have hx := Bd.exec
  have hby := Bd.bytes
  have hml : c.maxLocals = 3 := hml0
  have hown : s.vm.findClass "com/example/hueline/hueline/model/Pages" = some m.cls := findClass_of_methodNamed Bd.named
  have hnm := (name_of_methodNamed Bd.named Bd.method).1
  have hlk : meth.locks = false := Bd.notSynchronized
  have X0 : Stand p l e ({ frames := 0, cells := 0, slots := 0, locals := 0 } : Room) s m #[(.ref a1), (.long q1)] below meth c s₁ [] 0 0 := Stand.of_body Bd
  have e0 : s₁.heap = h0 := by rw [← hh, Bd.state]; rfl
  have N0 := Fr.nil n0
  refine own_body (Q := fun v h L => v = some (.int ((q1.toInt32) &&& (3 : Int32))) ∧ Fr n0 L ∧ h = h0) ?_
  generalize hΦ : own_Fin s below _ _ _ = Φ
  refine own_cast (ef_12_RJ m a1 q1) ?_
  show own_Run p e below Φ (s₁.setTop (mkF m 0 #[.val (.ref a1), .val (.long q1), .second] []))
  refine own_go (fun t k => XS.lloadN X0.here hx rfl (hb hby d12_0) rfl  k) ?_
  refine own_go (fun t k => XS.l2i X0.here hx rfl (hb hby d12_1) rfl k) ?_
  refine own_go (fun t k => XS.aloadN X0.here hx rfl (hb hby d12_2) rfl rfl  k) ?_
  obtain ⟨T1, X1, e1, st1⟩ := getF X0 hx hZ hown (host := "") (Or.inl (hw _ (List.mem_of_getElem? (i := 23) rfl))) Via.refl e0 H1 (g := (mkF m 3 #[.val (.ref a1), .val (.long q1), .second] [(.ref a1), (.int (q1.toInt32))])) rfl rfl (hb hby d12_3)
  refine own_go st1 ?_
  refine own_go (fun t k => XS.iand X1.here hx rfl (hb hby d12_6) rfl k) ?_
  show own_Run p e below Φ (T1.setTop (mkF m 7 #[.val (.ref a1), .val (.long q1), .second] [(.int ((q1.toInt32) &&& (3 : Int32)))]))
  subst hΦ
  exact own_retI X1 hx Bd.returns hlk (hb hby d12_7) e1 ⟨rfl, N0, rfl⟩ (by decide) (by decide)
theorem d10_0 : decode prog_46_method_1_code 0 = .ok (.aload_n 0, 1) := by decide +kernel
theorem d10_1 : decode prog_46_method_1_code 1 = .ok (.invokespecial 1, 3) := by decide +kernel
theorem d10_4 : decode prog_46_method_1_code 4 = .ok (.aload_n 0, 1) := by decide +kernel
theorem d10_5 : decode prog_46_method_1_code 5 = .ok (.iload_n 1, 1) := by decide +kernel
theorem d10_6 : decode prog_46_method_1_code 6 = .ok (.putfield 7, 3) := by decide +kernel
theorem d10_9 : decode prog_46_method_1_code 9 = .ok (.aload_n 0, 1) := by decide +kernel
theorem d10_10 : decode prog_46_method_1_code 10 = .ok (.iconst 1, 1) := by decide +kernel
theorem d10_11 : decode prog_46_method_1_code 11 = .ok (.iload_n 1, 1) := by decide +kernel
theorem d10_12 : decode prog_46_method_1_code 12 = .ok (.ishl, 1) := by decide +kernel
theorem d10_13 : decode prog_46_method_1_code 13 = .ok (.putfield 13, 3) := by decide +kernel
theorem d10_16 : decode prog_46_method_1_code 16 = .ok (.aload_n 0, 1) := by decide +kernel
theorem d10_17 : decode prog_46_method_1_code 17 = .ok (.aload_n 0, 1) := by decide +kernel
theorem d10_18 : decode prog_46_method_1_code 18 = .ok (.getfield 13, 3) := by decide +kernel
theorem d10_21 : decode prog_46_method_1_code 21 = .ok (.iconst 1, 1) := by decide +kernel
theorem d10_22 : decode prog_46_method_1_code 22 = .ok (.isub, 1) := by decide +kernel
theorem d10_23 : decode prog_46_method_1_code 23 = .ok (.putfield 16, 3) := by decide +kernel
theorem d10_26 : decode prog_46_method_1_code 26 = .ok (.return_, 1) := by decide +kernel
theorem ef_10_RI (m : MethodId) (x0 : Addr) (x1 : Int32) : entryFrame m #[(.ref x0), (.int x1)] 2 = mkF m 0 #[.val (.ref x0), .val (.int x1)] [] := by first | (simp [entryFrame, mkF, argsToLocals, Value.category]; done) | rfl
set_option maxRecDepth 65536 in
set_option maxHeartbeats 40000000 in
theorem rm_pi (l : Launch) (Z : State) (a0 : Array Value) (hw : ∀ d ∈ tables_1, d.before a0 Z = true) (a1 : Addr) (h0 : Heap) (n0 : Nat) (H1 : Exa Z h0 a1 "com/example/hueline/hueline/model/Pages") (H2 : Fld Z h0 a1 "com/example/hueline/hueline/model/Pages" "mask" "I" (.int (0 : Int32))) (H3 : Fld Z h0 a1 "com/example/hueline/hueline/model/Pages" "shift" "I" (.int (0 : Int32))) (H4 : Fld Z h0 a1 "com/example/hueline/hueline/model/Pages" "length" "I" (.int (0 : Int32))) (H5 : n0 ≤ a1) :
    own_Met l Z (⟨"com/example/hueline/hueline/model/Pages", "<init>", "(I)V"⟩ : MethodName) prog_46_method_1_code 2 none ({ frames := 1, cells := 0, slots := 0, locals := 12 } : Room) #[(.ref a1), (.int (2 : Int32))] h0 (fun v h L => v = none ∧ Fr n0 L ∧ Keep h0 h [a1] ∧ Fld Z h a1 "com/example/hueline/hueline/model/Pages" "shift" "I" (.int (2 : Int32)) ∧ Fld Z h a1 "com/example/hueline/hueline/model/Pages" "length" "I" (.int (4 : Int32)) ∧ Fld Z h a1 "com/example/hueline/hueline/model/Pages" "mask" "I" (.int (3 : Int32))) := by
  intro ws
  refine MetFree.of_bodySF (plainFor_of_name pn_c3) hisR ?_
  intro p e s m args below meth c s₁ Bd hml0 hP hK
  obtain ⟨rfl, hZ, hh⟩ := hP
  have hx := Bd.exec
  have hby := Bd.bytes
  have hml : c.maxLocals = 2 := hml0
  have hown : s.vm.findClass "com/example/hueline/hueline/model/Pages" = some m.cls := findClass_of_methodNamed Bd.named
  have hnm := (name_of_methodNamed Bd.named Bd.method).1
  have hlk : meth.locks = false := Bd.notSynchronized
  have X0 : Stand p l e ({ frames := 1, cells := 0, slots := 0, locals := 12 } : Room) s m #[(.ref a1), (.int (2 : Int32))] below meth c s₁ [] 0 0 := Stand.of_body Bd
  have e0 : s₁.heap = h0 := by rw [← hh, Bd.state]; rfl
  have N0 := Fr.nil n0
  refine own_body (Q := fun v h L => v = none ∧ Fr n0 L ∧ Keep h0 h [a1] ∧ Fld Z h a1 "com/example/hueline/hueline/model/Pages" "shift" "I" (.int (2 : Int32)) ∧ Fld Z h a1 "com/example/hueline/hueline/model/Pages" "length" "I" (.int (4 : Int32)) ∧ Fld Z h a1 "com/example/hueline/hueline/model/Pages" "mask" "I" (.int (3 : Int32))) ?_
  generalize hΦ : own_Fin s below _ _ _ = Φ
  refine own_cast (ef_10_RI m a1 (2 : Int32)) ?_
  have K0 := Keep.refl h0 [a1]
  show own_Run p e below Φ (s₁.setTop (mkF m 0 #[.val (.ref a1), .val (.int (2 : Int32))] []))
  refine own_go (fun t k => XS.aloadN X0.here hx rfl (hb hby d10_0) rfl rfl  k) ?_
  obtain ⟨T1, X1, e1, st1⟩ := initO X0 hx hZ hown (hw _ (List.mem_of_getElem? (i := 69) rfl)) (hw _ (List.mem_of_getElem? (i := 14) rfl)) (hw _ (List.mem_of_getElem? (i := 15) rfl)) e0 (g := (mkF m 1 #[.val (.ref a1), .val (.int (2 : Int32))] [(.ref a1)])) rfl (by rw [hml]; rfl) rfl (hb hby d10_1) (by decide) (W := 0) (by show 2 * 0 + _ ≤ _; exact Nat.le_of_eq rfl) (by decide)
  refine own_go st1 ?_
  refine own_go (fun t k => XS.aloadN X1.here hx rfl (hb hby d10_4) rfl rfl  k) ?_
  refine own_go (fun t k => XS.iloadN X1.here hx rfl (hb hby d10_5) rfl  k) ?_
  obtain ⟨T2, h2, X2, e2, W2, st2⟩ := putF X1 hx hZ hown (host := "") (Or.inl (hw _ (List.mem_of_getElem? (i := 25) rfl))) Via.refl e1 H3 H1 (Or.inr ⟨(hw _ (List.mem_of_getElem? (i := 26) rfl)), rfl, hnm⟩) (hw _ (List.mem_of_getElem? (i := 65) rfl)) (ty := .int) (by decide) rfl rfl (g := (mkF m 6 #[.val (.ref a1), .val (.int (2 : Int32))] [(.int (2 : Int32)), (.ref a1)])) rfl rfl (hb hby d10_6)
  refine own_go st2 ?_
  have G2 : Fld Z h2 a1 "com/example/hueline/hueline/model/Pages" "shift" "I" (.int (2 : Int32)) := H3.same W2
  have N2 := Fr.snoc X2 N0 H5
  show own_Run p e below Φ (T2.setTop (mkF m 9 #[.val (.ref a1), .val (.int (2 : Int32))] []))
  refine own_go (fun t k => XS.aloadN X2.here hx rfl (hb hby d10_9) rfl rfl  k) ?_
  refine own_go (fun t k => XS.iconst X2.here hx rfl (hb hby d10_10) k) ?_
  refine own_go (fun t k => XS.iloadN X2.here hx rfl (hb hby d10_11) rfl  k) ?_
  refine own_go (fun t k => XS.ishl X2.here hx rfl (hb hby d10_12) rfl k) ?_
  show own_Run p e below Φ (T2.setTop (mkF m 13 #[.val (.ref a1), .val (.int (2 : Int32))] [(.int ((1 : Int32) <<< ((2 : Int32) &&& 31))), (.ref a1)]))
  rw [show ((1 : Int32) <<< ((2 : Int32) &&& 31)) = (4 : Int32) from by decide]
  show own_Run p e below Φ (T2.setTop (mkF m 13 #[.val (.ref a1), .val (.int (2 : Int32))] [(.int (4 : Int32)), (.ref a1)]))
  have F3 : Fld Z h2 a1 "com/example/hueline/hueline/model/Pages" "length" "I" (.int (0 : Int32)) := (H4.other W2 (Or.inr (slot_ne (Or.inr (hw _ (List.mem_of_getElem? (i := 40) rfl))) (Or.inr (hw _ (List.mem_of_getElem? (i := 26) rfl))) (by decide) (t := .int) (t' := .int) (by decide) (by decide))))
  have F4 : Exa Z h2 a1 "com/example/hueline/hueline/model/Pages" := (H1.wr W2)
  obtain ⟨T5, h5, X5, e5, W5, st5⟩ := putF X2 hx hZ hown (host := "") (Or.inl (hw _ (List.mem_of_getElem? (i := 39) rfl))) Via.refl e2 F3 F4 (Or.inr ⟨(hw _ (List.mem_of_getElem? (i := 40) rfl)), rfl, hnm⟩) (hw _ (List.mem_of_getElem? (i := 65) rfl)) (ty := .int) (by decide) rfl rfl (g := (mkF m 13 #[.val (.ref a1), .val (.int (2 : Int32))] [(.int (4 : Int32)), (.ref a1)])) rfl rfl (hb hby d10_13)
  refine own_go st5 ?_
  have G5 : Fld Z h5 a1 "com/example/hueline/hueline/model/Pages" "length" "I" (.int (4 : Int32)) := F3.same W5
  have N5 := Fr.snoc X5 N2 H5
  refine own_go (fun t k => XS.aloadN X5.here hx rfl (hb hby d10_16) rfl rfl  k) ?_
  refine own_go (fun t k => XS.aloadN X5.here hx rfl (hb hby d10_17) rfl rfl  k) ?_
  obtain ⟨T6, X6, e6, st6⟩ := getF X5 hx hZ hown (host := "") (Or.inl (hw _ (List.mem_of_getElem? (i := 39) rfl))) Via.refl e5 G5 (g := (mkF m 18 #[.val (.ref a1), .val (.int (2 : Int32))] [(.ref a1), (.ref a1)])) rfl rfl (hb hby d10_18)
  refine own_go st6 ?_
  refine own_go (fun t k => XS.iconst X6.here hx rfl (hb hby d10_21) k) ?_
  show own_Run p e below Φ (T6.setTop (mkF m 22 #[.val (.ref a1), .val (.int (2 : Int32))] [(.int (1 : Int32)), (.int (4 : Int32)), (.ref a1)]))
  refine own_go (fun t k => XS.isub X6.here hx rfl (hb hby d10_22) rfl k) ?_
  show own_Run p e below Φ (T6.setTop (mkF m 23 #[.val (.ref a1), .val (.int (2 : Int32))] [(.int ((4 : Int32) - (1 : Int32))), (.ref a1)]))
  rw [show ((4 : Int32) - (1 : Int32)) = (3 : Int32) from by decide]
  show own_Run p e below Φ (T6.setTop (mkF m 23 #[.val (.ref a1), .val (.int (2 : Int32))] [(.int (3 : Int32)), (.ref a1)]))
  have F7 : Fld Z h5 a1 "com/example/hueline/hueline/model/Pages" "mask" "I" (.int (0 : Int32)) := ((H2.other W2 (Or.inr (slot_ne (Or.inr (hw _ (List.mem_of_getElem? (i := 24) rfl))) (Or.inr (hw _ (List.mem_of_getElem? (i := 26) rfl))) (by decide) (t := .int) (t' := .int) (by decide) (by decide)))).other W5 (Or.inr (slot_ne (Or.inr (hw _ (List.mem_of_getElem? (i := 24) rfl))) (Or.inr (hw _ (List.mem_of_getElem? (i := 40) rfl))) (by decide) (t := .int) (t' := .int) (by decide) (by decide))))
  have F8 : Exa Z h5 a1 "com/example/hueline/hueline/model/Pages" := (F4.wr W5)
  obtain ⟨T9, h9, X9, e9, W9, st9⟩ := putF X6 hx hZ hown (host := "") (Or.inl (hw _ (List.mem_of_getElem? (i := 23) rfl))) Via.refl e6 F7 F8 (Or.inr ⟨(hw _ (List.mem_of_getElem? (i := 24) rfl)), rfl, hnm⟩) (hw _ (List.mem_of_getElem? (i := 65) rfl)) (ty := .int) (by decide) rfl rfl (g := (mkF m 23 #[.val (.ref a1), .val (.int (2 : Int32))] [(.int (3 : Int32)), (.ref a1)])) rfl rfl (hb hby d10_23)
  refine own_go st9 ?_
  have G9 : Fld Z h9 a1 "com/example/hueline/hueline/model/Pages" "mask" "I" (.int (3 : Int32)) := F7.same W9
  have N9 := Fr.snoc X9 N5 H5
  have F10 : Keep h0 h9 [a1] := (((K0.wr W2 (Or.inl (List.mem_of_getElem? (i := 0) rfl))).wr W5 (Or.inl (List.mem_of_getElem? (i := 0) rfl))).wr W9 (Or.inl (List.mem_of_getElem? (i := 0) rfl)))
  have F11 : Fld Z h9 a1 "com/example/hueline/hueline/model/Pages" "shift" "I" (.int (2 : Int32)) := ((G2.other W5 (Or.inr (slot_ne (Or.inr (hw _ (List.mem_of_getElem? (i := 26) rfl))) (Or.inr (hw _ (List.mem_of_getElem? (i := 40) rfl))) (by decide) (t := .int) (t' := .int) (by decide) (by decide)))).other W9 (Or.inr (slot_ne (Or.inr (hw _ (List.mem_of_getElem? (i := 26) rfl))) (Or.inr (hw _ (List.mem_of_getElem? (i := 24) rfl))) (by decide) (t := .int) (t' := .int) (by decide) (by decide))))
  have F12 : Fld Z h9 a1 "com/example/hueline/hueline/model/Pages" "length" "I" (.int (4 : Int32)) := (G5.other W9 (Or.inr (slot_ne (Or.inr (hw _ (List.mem_of_getElem? (i := 40) rfl))) (Or.inr (hw _ (List.mem_of_getElem? (i := 24) rfl))) (by decide) (t := .int) (t' := .int) (by decide) (by decide))))
  subst hΦ
  exact own_retV X9 hx Bd.returns hlk (hb hby d10_26) e9 ⟨rfl, N9, F10, F11, F12, G9⟩ (by decide) (by decide)
theorem d2_0 : decode prog_36_method_2_code 0 = .ok (.aload_n 0, 1) := by decide +kernel
theorem d2_1 : decode prog_36_method_2_code 1 = .ok (.invokespecial 13, 3) := by decide +kernel
theorem d2_4 : decode prog_36_method_2_code 4 = .ok (.aload_n 0, 1) := by decide +kernel
theorem d2_5 : decode prog_36_method_2_code 5 = .ok (.aload_n 3, 1) := by decide +kernel
theorem d2_6 : decode prog_36_method_2_code 6 = .ok (.putfield 18, 3) := by decide +kernel
theorem d2_9 : decode prog_36_method_2_code 9 = .ok (.aload_n 0, 1) := by decide +kernel
theorem d2_10 : decode prog_36_method_2_code 10 = .ok (.aload_n 3, 1) := by decide +kernel
theorem d2_11 : decode prog_36_method_2_code 11 = .ok (.lload_n 1, 1) := by decide +kernel
theorem d2_12 : decode prog_36_method_2_code 12 = .ok (.invokevirtual 21, 3) := by decide +kernel
theorem d2_15 : decode prog_36_method_2_code 15 = .ok (.anewarray 25, 3) := by decide +kernel
theorem d2_18 : decode prog_36_method_2_code 18 = .ok (.putfield 27, 3) := by decide +kernel
theorem d2_21 : decode prog_36_method_2_code 21 = .ok (.aload_n 0, 1) := by decide +kernel
theorem d2_22 : decode prog_36_method_2_code 22 = .ok (.lload_n 1, 1) := by decide +kernel
theorem d2_23 : decode prog_36_method_2_code 23 = .ok (.putfield 31, 3) := by decide +kernel
theorem d2_26 : decode prog_36_method_2_code 26 = .ok (.iconst 0, 1) := by decide +kernel
theorem d2_27 : decode prog_36_method_2_code 27 = .ok (.istore 4, 2) := by decide +kernel
theorem d2_29 : decode prog_36_method_2_code 29 = .ok (.iload 4, 2) := by decide +kernel
theorem d2_31 : decode prog_36_method_2_code 31 = .ok (.aload_n 0, 1) := by decide +kernel
theorem d2_32 : decode prog_36_method_2_code 32 = .ok (.getfield 27, 3) := by decide +kernel
theorem d2_35 : decode prog_36_method_2_code 35 = .ok (.arraylength, 1) := by decide +kernel
theorem d2_36 : decode prog_36_method_2_code 36 = .ok (.if_icmp .ge 25, 3) := by decide +kernel
theorem d2_39 : decode prog_36_method_2_code 39 = .ok (.aload_n 0, 1) := by decide +kernel
theorem d2_40 : decode prog_36_method_2_code 40 = .ok (.getfield 27, 3) := by decide +kernel
theorem d2_43 : decode prog_36_method_2_code 43 = .ok (.iload 4, 2) := by decide +kernel
theorem d2_45 : decode prog_36_method_2_code 45 = .ok (.aload_n 3, 1) := by decide +kernel
theorem d2_46 : decode prog_36_method_2_code 46 = .ok (.lload_n 1, 1) := by decide +kernel
theorem d2_47 : decode prog_36_method_2_code 47 = .ok (.iload 4, 2) := by decide +kernel
theorem d2_49 : decode prog_36_method_2_code 49 = .ok (.invokevirtual 35, 3) := by decide +kernel
theorem d2_52 : decode prog_36_method_2_code 52 = .ok (.newarray .int, 2) := by decide +kernel
theorem d2_54 : decode prog_36_method_2_code 54 = .ok (.aastore, 1) := by decide +kernel
theorem d2_55 : decode prog_36_method_2_code 55 = .ok (.iinc 4 1, 3) := by decide +kernel
theorem d2_58 : decode prog_36_method_2_code 58 = .ok (.goto (-29), 3) := by decide +kernel
theorem d2_61 : decode prog_36_method_2_code 61 = .ok (.aload_n 0, 1) := by decide +kernel
theorem d2_62 : decode prog_36_method_2_code 62 = .ok (.aload_n 0, 1) := by decide +kernel
theorem d2_63 : decode prog_36_method_2_code 63 = .ok (.getfield 27, 3) := by decide +kernel
theorem d2_66 : decode prog_36_method_2_code 66 = .ok (.arraylength, 1) := by decide +kernel
theorem d2_67 : decode prog_36_method_2_code 67 = .ok (.iconst 1, 1) := by decide +kernel
theorem d2_68 : decode prog_36_method_2_code 68 = .ok (.if_icmp .ne 12, 3) := by decide +kernel
theorem d2_71 : decode prog_36_method_2_code 71 = .ok (.aload_n 0, 1) := by decide +kernel
theorem d2_72 : decode prog_36_method_2_code 72 = .ok (.getfield 27, 3) := by decide +kernel
theorem d2_75 : decode prog_36_method_2_code 75 = .ok (.iconst 0, 1) := by decide +kernel
theorem d2_76 : decode prog_36_method_2_code 76 = .ok (.aaload, 1) := by decide +kernel
theorem d2_77 : decode prog_36_method_2_code 77 = .ok (.goto 4, 3) := by decide +kernel
theorem d2_81 : decode prog_36_method_2_code 81 = .ok (.putfield 38, 3) := by decide +kernel
theorem d2_84 : decode prog_36_method_2_code 84 = .ok (.return_, 1) := by decide +kernel
theorem pn_c1 : plainName "com/example/hueline/hueline/model/BigIntArray" = true := by first | (simp [plainName, overriddenIn]; done) | decide +kernel
theorem pd_3 : parseMethodDescriptor "(J)I" = some ⟨[.long], some .int⟩ := by decide +kernel
theorem pd_4 : parseMethodDescriptor "(JI)I" = some ⟨[.long, .int], some .int⟩ := by decide +kernel
theorem ef_2_RJR (m : MethodId) (x0 : Addr) (x1 : Int64) (x2 : Addr) : entryFrame m #[(.ref x0), (.long x1), (.ref x2)] 5 = mkF m 0 #[.val (.ref x0), .val (.long x1), .second, .val (.ref x2), .unset] [] := by first | (simp [entryFrame, mkF, argsToLocals, Value.category]; done) | rfl
set_option maxRecDepth 65536 in
set_option maxHeartbeats 40000000 in
theorem rm_ct1s (l : Launch) (Z : State) (a0 : Array Value) (hw : ∀ d ∈ tables_1, d.before a0 Z = true) (a1 : Addr) (q1 : Int64) (w1 : Addr) (zl : Int32) (h0 : Heap) (n0 : Nat) (H1 : Exa Z h0 a1 "com/example/hueline/hueline/model/BigIntArray") (H2 : Fld Z h0 a1 "com/example/hueline/hueline/model/BigIntArray" "layout" "Lcom/example/hueline/hueline/model/Pages;" .null) (H3 : Fld Z h0 a1 "com/example/hueline/hueline/model/BigIntArray" "pages" "[[I" .null) (H4 : Fld Z h0 a1 "com/example/hueline/hueline/model/BigIntArray" "length" "J" (.long (0 : Int64))) (H5 : Fld Z h0 a1 "com/example/hueline/hueline/model/BigIntArray" "flat" "[I" .null) (H6 : n0 ≤ a1) (H7 : n0 ≤ h0.size) (H8 : Old Z n0 h0) (H9 : Exa Z Z.heap w1 "com/example/hueline/hueline/model/Pages") (H10 : Fld Z Z.heap w1 "com/example/hueline/hueline/model/Pages" "mask" "I" (.int (1073741823 : Int32))) (H11 : Fld Z Z.heap w1 "com/example/hueline/hueline/model/Pages" "shift" "I" (.int (30 : Int32))) (H12 : Fld Z Z.heap w1 "com/example/hueline/hueline/model/Pages" "length" "I" (.int (1073741824 : Int32))) (hz : 1 ≤ zl.toInt ∧ zl.toInt ≤ 16) (hn : q1.toInt = 0 + zl.toInt) :
    own_Met l Z (⟨"com/example/hueline/hueline/model/BigIntArray", "<init>", "(JLcom/example/hueline/hueline/model/Pages;)V"⟩ : MethodName) prog_36_method_2_code 5 none ({ frames := 2, cells := 2, slots := 17, locals := 32 } : Room) #[(.ref a1), (.long q1), (.ref w1)] h0 (fun v h L => v = none ∧ Fr n0 L ∧ Keep h0 h [a1] ∧ Fld Z h a1 "com/example/hueline/hueline/model/BigIntArray" "layout" "Lcom/example/hueline/hueline/model/Pages;" (.ref w1) ∧ Fld Z h a1 "com/example/hueline/hueline/model/BigIntArray" "length" "J" (.long q1) ∧ ∃ (x0 : Addr) (k0 : ClassId), n0 ≤ x0 ∧ h0.size ≤ x0 ∧ Fld Z h a1 "com/example/hueline/hueline/model/BigIntArray" "flat" "[I" (.ref x0) ∧ Arv Z h x0 k0 .int zl (own_fl own_z) (.int (0 : Int32))) := by
  intro ws
  refine MetFree.of_bodySF (plainFor_of_name pn_c1) hisR ?_
  intro p e s m args below meth c s₁ Bd hml0 hP hK
  obtain ⟨rfl, hZ, hh⟩ := hP
  have hx := Bd.exec
  have hby := Bd.bytes
  have hml : c.maxLocals = 5 := hml0
  have hown : s.vm.findClass "com/example/hueline/hueline/model/BigIntArray" = some m.cls := findClass_of_methodNamed Bd.named
  have hnm := (name_of_methodNamed Bd.named Bd.method).1
  have hlk : meth.locks = false := Bd.notSynchronized
  have X0 : Stand p l e ({ frames := 2, cells := 2, slots := 17, locals := 32 } : Room) s m #[(.ref a1), (.long q1), (.ref w1)] below meth c s₁ [] 0 0 := Stand.of_body Bd
  have e0 : s₁.heap = h0 := by rw [← hh, Bd.state]; rfl
  have N0 := Fr.nil n0
  refine own_body (Q := fun v h L => v = none ∧ Fr n0 L ∧ Keep h0 h [a1] ∧ Fld Z h a1 "com/example/hueline/hueline/model/BigIntArray" "layout" "Lcom/example/hueline/hueline/model/Pages;" (.ref w1) ∧ Fld Z h a1 "com/example/hueline/hueline/model/BigIntArray" "length" "J" (.long q1) ∧ ∃ (x0 : Addr) (k0 : ClassId), n0 ≤ x0 ∧ h0.size ≤ x0 ∧ Fld Z h a1 "com/example/hueline/hueline/model/BigIntArray" "flat" "[I" (.ref x0) ∧ Arv Z h x0 k0 .int zl (own_fl own_z) (.int (0 : Int32))) ?_
  generalize hΦ : own_Fin s below _ _ _ = Φ
  refine own_cast (ef_2_RJR m a1 q1 w1) ?_
  have K0 := Keep.refl h0 [a1]
  show own_Run p e below Φ (s₁.setTop (mkF m 0 #[.val (.ref a1), .val (.long q1), .second, .val (.ref w1), .unset] []))
  refine own_go (fun t k => XS.aloadN X0.here hx rfl (hb hby d2_0) rfl rfl  k) ?_
  obtain ⟨T1, X1, e1, st1⟩ := initO X0 hx hZ hown (hw _ (List.mem_of_getElem? (i := 13) rfl)) (hw _ (List.mem_of_getElem? (i := 14) rfl)) (hw _ (List.mem_of_getElem? (i := 15) rfl)) e0 (g := (mkF m 1 #[.val (.ref a1), .val (.long q1), .second, .val (.ref w1), .unset] [(.ref a1)])) rfl (by rw [hml]; rfl) rfl (hb hby d2_1) (by decide) (W := 0) (by show 2 * 0 + _ ≤ _; exact Nat.le_of_eq rfl) (by decide)
  refine own_go st1 ?_
  refine own_go (fun t k => XS.aloadN X1.here hx rfl (hb hby d2_4) rfl rfl  k) ?_
  refine own_go (fun t k => XS.aloadN X1.here hx rfl (hb hby d2_5) rfl rfl  k) ?_
  obtain ⟨T2, h2, X2, e2, W2, st2⟩ := putF X1 hx hZ hown (host := "") (Or.inl (hw _ (List.mem_of_getElem? (i := 16) rfl))) Via.refl e1 H2 H1 (Or.inr ⟨(hw _ (List.mem_of_getElem? (i := 17) rfl)), rfl, hnm⟩) (hw _ (List.mem_of_getElem? (i := 2) rfl)) (ty := (.object "com/example/hueline/hueline/model/Pages")) (by decide) rfl rfl (g := (mkF m 6 #[.val (.ref a1), .val (.long q1), .second, .val (.ref w1), .unset] [(.ref w1), (.ref a1)])) rfl rfl (hb hby d2_6)
  refine own_go st2 ?_
  have G2 : Fld Z h2 a1 "com/example/hueline/hueline/model/BigIntArray" "layout" "Lcom/example/hueline/hueline/model/Pages;" (.ref w1) := H2.same W2
  have N2 := Fr.snoc X2 N0 H6
  show own_Run p e below Φ (T2.setTop (mkF m 9 #[.val (.ref a1), .val (.long q1), .second, .val (.ref w1), .unset] []))
  refine own_go (fun t k => XS.aloadN X2.here hx rfl (hb hby d2_9) rfl rfl  k) ?_
  refine own_go (fun t k => XS.aloadN X2.here hx rfl (hb hby d2_10) rfl rfl  k) ?_
  refine own_go (fun t k => XS.lloadN X2.here hx rfl (hb hby d2_11) rfl  k) ?_
  have F3 : Old Z n0 h2 := (H8.wr W2 H6)
  have F4 : Fld Z h2 w1 "com/example/hueline/hueline/model/Pages" "mask" "I" (.int (1073741823 : Int32)) := H10.ext F3.2
  have F5 : Fld Z h2 w1 "com/example/hueline/hueline/model/Pages" "shift" "I" (.int (30 : Int32)) := H11.ext F3.2
  have F7 : Exa Z h2 w1 "com/example/hueline/hueline/model/Pages" := H9.ext F3.2
  refine own_callV X2 hx hZ (y := (⟨"com/example/hueline/hueline/model/Pages", "count", "(J)I"⟩ : MethodName)) (z := (⟨"com/example/hueline/hueline/model/Pages", "count", "(J)I"⟩ : MethodName)) (W := 1) (a := w1) (argsL := [(.long q1)]) (rest := [(.ref a1)]) hown (hw _ (List.mem_of_getElem? (i := 18) rfl)) (hw _ (List.mem_of_getElem? (i := 19) rfl)) (notFace_of_selects (args := #[]) (mvT hZ (hw _ (List.mem_of_getElem? (i := 21) rfl)))) (hw _ (List.mem_of_getElem? (i := 21) rfl)) (hw _ (List.mem_of_getElem? (i := 20) rfl)) (by decide) (own_bk (rm_cnt l Z a0 hw w1 q1 (1073741823 : Int32) (30 : Int32) (1 : Int64) (1 : Int32) h2 n0 F4 F5 (by omega) (own_cn 1073741823 (by decide) 30 (by decide) (by decide) ⟨by omega, by omega, by decide⟩ (by show _ = (1 : Int); omega)) (by decide) (by decide)) hZ (hw _ (List.mem_of_getElem? (i := 22) rfl)) (hw _ (List.mem_of_getElem? (i := 8) rfl)) (by decide) (by decide)) e2 F7 (g := (mkF m 12 #[.val (.ref a1), .val (.long q1), .second, .val (.ref w1), .unset] [(.long q1), (.ref w1), (.ref a1)])) rfl (by rw [hml]; rfl) (lenOf pd_3 rfl) rfl (by show 2 * 0 + _ ≤ _; exact Nat.le_of_eq rfl) (hb hby d2_12) (by decide) (by decide) (fun v6 T6 h6 L6 X6 e6 q6 => ?_)
  obtain ⟨rfl, M6, s6⟩ := q6
  replace e6 : T6.heap = h2 := e6.trans s6
  have N6 := Fr.app N2 M6
  have F9 : n0 ≤ h2.size := (Nat.le_trans H7 (Keep.of_wr W2).1)
  have F10 : Keep h0 h2 [a1] := (K0.wr W2 (Or.inl (List.mem_of_getElem? (i := 0) rfl)))
  have F11 : Exa Z h2 a1 "com/example/hueline/hueline/model/BigIntArray" := (H1.wr W2)
  refine own_newRA X6 hx hZ hown (ty := .int) rfl (hw _ (List.mem_of_getElem? (i := 28) rfl)) (hw _ (List.mem_of_getElem? (i := 29) rfl)) e6 (g := (mkF m 15 #[.val (.ref a1), .val (.long q1), .second, .val (.ref w1), .unset] [(.int (1 : Int32)), (.ref a1)])) rfl (hb hby d2_15) rfl (by decide) 1 (by decide) (by decide) (by decide) (by decide) 1 (fun T8 h8 k8 b8 X8 e8 E8 g8 V8 O8 => ?_)
  have ne_a1_b8 : a1 ≠ b8 := Nat.ne_of_lt (Nat.lt_of_lt_of_le F11.lt (Nat.le_of_eq g8.symm))
  replace V8 : Arv Z h8 b8 k8 (.array .int) (1 : Int32) [.null] .null := V8
  show own_Run p e below Φ (T8.setTop (mkF m 18 #[.val (.ref a1), .val (.long q1), .second, .val (.ref w1), .unset] [(.ref b8), (.ref a1)]))
  have F12 : Fld Z h8 a1 "com/example/hueline/hueline/model/BigIntArray" "pages" "[[I" .null := ((H3.other W2 (Or.inr (slot_ne (Or.inl (hw _ (List.mem_of_getElem? (i := 31) rfl))) (Or.inr (hw _ (List.mem_of_getElem? (i := 17) rfl))) (by decide) (t := (.array (.array .int))) (t' := (.object "com/example/hueline/hueline/model/Pages")) (by decide) (by decide)))).ext E8)
  have F13 : Exa Z h8 a1 "com/example/hueline/hueline/model/BigIntArray" := (F11.ext E8)
  obtain ⟨T14, h14, X14, e14, W14, st14⟩ := putF X8 hx hZ hown (host := "") (Or.inl (hw _ (List.mem_of_getElem? (i := 30) rfl))) Via.refl e8 F12 F13 (Or.inl (hw _ (List.mem_of_getElem? (i := 31) rfl))) (hw _ (List.mem_of_getElem? (i := 2) rfl)) (ty := (.array (.array .int))) (by decide) rfl rfl (g := (mkF m 18 #[.val (.ref a1), .val (.long q1), .second, .val (.ref w1), .unset] [(.ref b8), (.ref a1)])) rfl rfl (hb hby d2_18)
  refine own_go st14 ?_
  have G14 : Fld Z h14 a1 "com/example/hueline/hueline/model/BigIntArray" "pages" "[[I" (.ref b8) := F12.same W14
  have N14 := Fr.snoc X14 N6 H6
  refine own_go (fun t k => XS.aloadN X14.here hx rfl (hb hby d2_21) rfl rfl  k) ?_
  refine own_go (fun t k => XS.lloadN X14.here hx rfl (hb hby d2_22) rfl  k) ?_
  have F15 : Fld Z h14 a1 "com/example/hueline/hueline/model/BigIntArray" "length" "J" (.long (0 : Int64)) := (((H4.other W2 (Or.inr (slot_ne (Or.inl (hw _ (List.mem_of_getElem? (i := 33) rfl))) (Or.inr (hw _ (List.mem_of_getElem? (i := 17) rfl))) (by decide) (t := .long) (t' := (.object "com/example/hueline/hueline/model/Pages")) (by decide) (by decide)))).ext E8).other W14 (Or.inr (slot_ne (Or.inl (hw _ (List.mem_of_getElem? (i := 33) rfl))) (Or.inl (hw _ (List.mem_of_getElem? (i := 31) rfl))) (by decide) (t := .long) (t' := (.array (.array .int))) (by decide) (by decide))))
  have F16 : Exa Z h14 a1 "com/example/hueline/hueline/model/BigIntArray" := (F13.wr W14)
  obtain ⟨T17, h17, X17, e17, W17, st17⟩ := putF X14 hx hZ hown (host := "") (Or.inl (hw _ (List.mem_of_getElem? (i := 32) rfl))) Via.refl e14 F15 F16 (Or.inl (hw _ (List.mem_of_getElem? (i := 33) rfl))) (hw _ (List.mem_of_getElem? (i := 2) rfl)) (ty := .long) (by decide) rfl rfl (g := (mkF m 23 #[.val (.ref a1), .val (.long q1), .second, .val (.ref w1), .unset] [(.long q1), (.ref a1)])) rfl rfl (hb hby d2_23)
  refine own_go st17 ?_
  have G17 : Fld Z h17 a1 "com/example/hueline/hueline/model/BigIntArray" "length" "J" (.long q1) := F15.same W17
  have N17 := Fr.snoc X17 N14 H6
  refine own_go (fun t k => XS.iconst X17.here hx rfl (hb hby d2_26) k) ?_
  show own_Run p e below Φ (T17.setTop (mkF m 27 #[.val (.ref a1), .val (.long q1), .second, .val (.ref w1), .unset] [(.int (0 : Int32))]))
  refine own_go (fun t k => XS.istore X17.here hx rfl (hb hby d2_27) rfl (l' := #[.val (.ref a1), .val (.long q1), .second, .val (.ref w1), .val (.int (0 : Int32))]) rfl k) ?_
  refine own_go (fun t k => XS.iload X17.here hx rfl (hb hby d2_29) rfl  k) ?_
  refine own_go (fun t k => XS.aloadN X17.here hx rfl (hb hby d2_31) rfl rfl  k) ?_
  have F18 : Fld Z h17 a1 "com/example/hueline/hueline/model/BigIntArray" "pages" "[[I" (.ref b8) := (G14.other W17 (Or.inr (slot_ne (Or.inl (hw _ (List.mem_of_getElem? (i := 31) rfl))) (Or.inl (hw _ (List.mem_of_getElem? (i := 33) rfl))) (by decide) (t := (.array (.array .int))) (t' := .long) (by decide) (by decide))))
  obtain ⟨T19, X19, e19, st19⟩ := getF X17 hx hZ hown (host := "") (Or.inl (hw _ (List.mem_of_getElem? (i := 30) rfl))) Via.refl e17 F18 (g := (mkF m 32 #[.val (.ref a1), .val (.long q1), .second, .val (.ref w1), .val (.int (0 : Int32))] [(.ref a1), (.int (0 : Int32))])) rfl rfl (hb hby d2_32)
  refine own_go st19 ?_
  have F20 : Arv Z h17 b8 k8 (.array .int) (1 : Int32) [.null] .null := ((V8.other W14 (Ne.symm ne_a1_b8)).other W17 (Ne.symm ne_a1_b8))
  refine own_arrlen X19 hx hZ e19 F20 (g := (mkF m 35 #[.val (.ref a1), .val (.long q1), .second, .val (.ref w1), .val (.int (0 : Int32))] [(.ref b8), (.int (0 : Int32))])) rfl rfl (hb hby d2_35) ?_
  show own_Run p e below Φ (T19.setTop (mkF m 36 #[.val (.ref a1), .val (.long q1), .second, .val (.ref w1), .val (.int (0 : Int32))] [(.int (1 : Int32)), (.int (0 : Int32))]))
  refine own_go (fun t k => XS.icmpNo X19.here hx rfl (hb hby d2_36) rfl (tlt (by decide : (0 : Int32) < (1 : Int32))).2.1 k) ?_
  refine own_go (fun t k => XS.aloadN X19.here hx rfl (hb hby d2_39) rfl rfl  k) ?_
  obtain ⟨T21, X21, e21, st21⟩ := getF X19 hx hZ hown (host := "") (Or.inl (hw _ (List.mem_of_getElem? (i := 30) rfl))) Via.refl e19 F18 (g := (mkF m 40 #[.val (.ref a1), .val (.long q1), .second, .val (.ref w1), .val (.int (0 : Int32))] [(.ref a1)])) rfl rfl (hb hby d2_40)
  refine own_go st21 ?_
  refine own_go (fun t k => XS.iload X21.here hx rfl (hb hby d2_43) rfl  k) ?_
  refine own_go (fun t k => XS.aloadN X21.here hx rfl (hb hby d2_45) rfl rfl  k) ?_
  show own_Run p e below Φ (T21.setTop (mkF m 46 #[.val (.ref a1), .val (.long q1), .second, .val (.ref w1), .val (.int (0 : Int32))] [(.ref w1), (.int (0 : Int32)), (.ref b8)]))
  refine own_go (fun t k => XS.lloadN X21.here hx rfl (hb hby d2_46) rfl  k) ?_
  refine own_go (fun t k => XS.iload X21.here hx rfl (hb hby d2_47) rfl  k) ?_
  have F22 : Old Z n0 h17 := (((F3.ext E8).wr W14 H6).wr W17 H6)
  have F23 : Fld Z h17 w1 "com/example/hueline/hueline/model/Pages" "length" "I" (.int (1073741824 : Int32)) := H12.ext F22.2
  have F24 : Fld Z h17 w1 "com/example/hueline/hueline/model/Pages" "shift" "I" (.int (30 : Int32)) := H11.ext F22.2
  have F26 : Exa Z h17 w1 "com/example/hueline/hueline/model/Pages" := H9.ext F22.2
  refine own_callV X21 hx hZ (y := (⟨"com/example/hueline/hueline/model/Pages", "length", "(JI)I"⟩ : MethodName)) (z := (⟨"com/example/hueline/hueline/model/Pages", "length", "(JI)I"⟩ : MethodName)) (W := 2) (a := w1) (argsL := [(.long q1), (.int (0 : Int32))]) (rest := [(.int (0 : Int32)), (.ref b8)]) hown (hw _ (List.mem_of_getElem? (i := 34) rfl)) (hw _ (List.mem_of_getElem? (i := 35) rfl)) (notFace_of_selects (args := #[]) (mvT hZ (hw _ (List.mem_of_getElem? (i := 37) rfl)))) (hw _ (List.mem_of_getElem? (i := 37) rfl)) (hw _ (List.mem_of_getElem? (i := 36) rfl)) (by decide) (own_bk (rm_len l Z a0 hw w1 q1 (0 : Int32) (1073741824 : Int32) (30 : Int32) zl h17 n0 F23 F24 (own_ln 0 (by decide) 1073741824 (by decide) (by omega) (by omega) (by omega) (by omega) (by first | exact Or.inl ⟨by omega, by decide⟩ | exact Or.inr ⟨by omega, by omega⟩))) hZ (hw _ (List.mem_of_getElem? (i := 38) rfl)) (hw _ (List.mem_of_getElem? (i := 8) rfl)) (by decide) (by decide)) e21 F26 (g := (mkF m 49 #[.val (.ref a1), .val (.long q1), .second, .val (.ref w1), .val (.int (0 : Int32))] [(.int (0 : Int32)), (.long q1), (.ref w1), (.int (0 : Int32)), (.ref b8)])) rfl (by rw [hml]; rfl) (lenOf pd_4 rfl) rfl (by show 2 * 0 + _ ≤ _; exact Nat.le_of_eq rfl) (hb hby d2_49) (by decide) (by decide) (fun v25 T25 h25 L25 X25 e25 q25 => ?_)
  obtain ⟨rfl, M25, s25⟩ := q25
  replace e25 : T25.heap = h17 := e25.trans s25
  have N25 := Fr.app N17 M25
  have F28 : n0 ≤ h17.size := (Nat.le_trans (Nat.le_trans (Nat.le_trans F9 E8.1) (Keep.of_wr W14).1) (Keep.of_wr W17).1)
  have F29 : Keep h0 h17 [a1] := (((F10.ext E8).wr W14 (Or.inl (List.mem_of_getElem? (i := 0) rfl))).wr W17 (Or.inl (List.mem_of_getElem? (i := 0) rfl)))
  have F30 : Exa Z h17 a1 "com/example/hueline/hueline/model/BigIntArray" := (F16.wr W17)
  refine own_newPE X25 hx hZ (hw _ (List.mem_of_getElem? (i := 45) rfl)) e25 (g := (mkF m 52 #[.val (.ref a1), .val (.long q1), .second, .val (.ref w1), .val (.int (0 : Int32))] [(.int zl), (.int (0 : Int32)), (.ref b8)])) rfl (hb hby d2_52) rfl (fun q => by rw [Int32.lt_iff_toInt_lt] at q; simp only [Int32.reduceToInt] at q; omega) 16 (by show zl.toInt.toNat ≤ 16; omega) (by decide) (by decide) (by decide) 16 "[I" rfl (fun T27 h27 k27 b27 X27 e27 E27 g27 V27 Y27 => ?_)
  have ne_a1_b27 : a1 ≠ b27 := Nat.ne_of_lt (Nat.lt_of_lt_of_le F30.lt (Nat.le_of_eq g27.symm))
  have ne_b8_b27 : b8 ≠ b27 := Nat.ne_of_lt (Nat.lt_of_lt_of_le F20.lt (Nat.le_of_eq g27.symm))
  replace V27 : Arv Z h27 b27 k27 .int zl [(.int (0 : Int32)), (.int (0 : Int32)), (.int (0 : Int32)), (.int (0 : Int32)), (.int (0 : Int32)), (.int (0 : Int32)), (.int (0 : Int32)), (.int (0 : Int32)), (.int (0 : Int32)), (.int (0 : Int32)), (.int (0 : Int32)), (.int (0 : Int32)), (.int (0 : Int32)), (.int (0 : Int32)), (.int (0 : Int32)), (.int (0 : Int32))] (.int (0 : Int32)) := V27
  have F32 : Arv Z h27 b8 k8 (.array .int) (1 : Int32) [.null] .null := (F20.ext E27)
  refine own_aastore X27 hx hZ e27 F32 O8 Y27 (hw _ (List.mem_of_getElem? (i := 46) rfl)) (j := (0 : Int32)) ⟨by decide, by decide⟩ 0 rfl (Nat.le_of_ble_eq_true rfl) (g := (mkF m 54 #[.val (.ref a1), .val (.long q1), .second, .val (.ref w1), .val (.int (0 : Int32))] [(.ref b27), (.int (0 : Int32)), (.ref b8)])) rfl rfl (hb hby d2_54) (fun T33 h33 X33 e33 W33 V33 => ?_)
  replace V33 : Arv Z h33 b8 k8 (.array .int) (1 : Int32) [(.ref b27)] .null := V33
  have N33 := Fr.snoc X33 N25 (Nat.le_trans F9 (Nat.le_of_eq g8.symm))
  show own_Run p e below Φ (T33.setTop (mkF m 55 #[.val (.ref a1), .val (.long q1), .second, .val (.ref w1), .val (.int (0 : Int32))] []))
  refine own_go (fun t k => XS.iinc X33.here hx rfl (hb hby d2_55) rfl (l' := #[.val (.ref a1), .val (.long q1), .second, .val (.ref w1), .val (.int ((0 : Int32) + (1 : Int32)))]) rfl k) ?_
  show own_Run p e below Φ (T33.setTop (mkF m 58 #[.val (.ref a1), .val (.long q1), .second, .val (.ref w1), .val (.int ((0 : Int32) + (1 : Int32)))] []))
  rw [show ((0 : Int32) + (1 : Int32)) = (1 : Int32) from by decide]
  show own_Run p e below Φ (T33.setTop (mkF m 58 #[.val (.ref a1), .val (.long q1), .second, .val (.ref w1), .val (.int (1 : Int32))] []))
  refine own_go (fun t k => XS.goto X33.here hx rfl (pc0 := 58) (pc' := 29) rfl (hb hby d2_58) (by decide) (by decide) k) ?_
  refine own_go (fun t k => XS.iload X33.here hx rfl (hb hby d2_29) rfl  k) ?_
  refine own_go (fun t k => XS.aloadN X33.here hx rfl (hb hby d2_31) rfl rfl  k) ?_
  have F34 : Fld Z h33 a1 "com/example/hueline/hueline/model/BigIntArray" "pages" "[[I" (.ref b8) := ((F18.ext E27).other W33 (Or.inl ne_a1_b8))
  obtain ⟨T35, X35, e35, st35⟩ := getF X33 hx hZ hown (host := "") (Or.inl (hw _ (List.mem_of_getElem? (i := 30) rfl))) Via.refl e33 F34 (g := (mkF m 32 #[.val (.ref a1), .val (.long q1), .second, .val (.ref w1), .val (.int (1 : Int32))] [(.ref a1), (.int (1 : Int32))])) rfl rfl (hb hby d2_32)
  refine own_go st35 ?_
  refine own_arrlen X35 hx hZ e35 V33 (g := (mkF m 35 #[.val (.ref a1), .val (.long q1), .second, .val (.ref w1), .val (.int (1 : Int32))] [(.ref b8), (.int (1 : Int32))])) rfl rfl (hb hby d2_35) ?_
  show own_Run p e below Φ (T35.setTop (mkF m 36 #[.val (.ref a1), .val (.long q1), .second, .val (.ref w1), .val (.int (1 : Int32))] [(.int (1 : Int32)), (.int (1 : Int32))]))
  refine own_go (fun t k => XS.icmpYes X35.here hx rfl (pc0 := 36) (pc' := 61) rfl (hb hby d2_36) rfl (flt (by decide : ¬ ((1 : Int32) < (1 : Int32)))).2.1 (by decide) (by decide) k) ?_
  refine own_go (fun t k => XS.aloadN X35.here hx rfl (hb hby d2_61) rfl rfl  k) ?_
  refine own_go (fun t k => XS.aloadN X35.here hx rfl (hb hby d2_62) rfl rfl  k) ?_
  obtain ⟨T36, X36, e36, st36⟩ := getF X35 hx hZ hown (host := "") (Or.inl (hw _ (List.mem_of_getElem? (i := 30) rfl))) Via.refl e35 F34 (g := (mkF m 63 #[.val (.ref a1), .val (.long q1), .second, .val (.ref w1), .val (.int (1 : Int32))] [(.ref a1), (.ref a1)])) rfl rfl (hb hby d2_63)
  refine own_go st36 ?_
  refine own_arrlen X36 hx hZ e36 V33 (g := (mkF m 66 #[.val (.ref a1), .val (.long q1), .second, .val (.ref w1), .val (.int (1 : Int32))] [(.ref b8), (.ref a1)])) rfl rfl (hb hby d2_66) ?_
  show own_Run p e below Φ (T36.setTop (mkF m 67 #[.val (.ref a1), .val (.long q1), .second, .val (.ref w1), .val (.int (1 : Int32))] [(.int (1 : Int32)), (.ref a1)]))
  refine own_go (fun t k => XS.iconst X36.here hx rfl (hb hby d2_67) k) ?_
  refine own_go (fun t k => XS.icmpNo X36.here hx rfl (hb hby d2_68) rfl (teq (rfl : (1 : Int32) = (1 : Int32))).2 k) ?_
  refine own_go (fun t k => XS.aloadN X36.here hx rfl (hb hby d2_71) rfl rfl  k) ?_
  obtain ⟨T37, X37, e37, st37⟩ := getF X36 hx hZ hown (host := "") (Or.inl (hw _ (List.mem_of_getElem? (i := 30) rfl))) Via.refl e36 F34 (g := (mkF m 72 #[.val (.ref a1), .val (.long q1), .second, .val (.ref w1), .val (.int (1 : Int32))] [(.ref a1), (.ref a1)])) rfl rfl (hb hby d2_72)
  refine own_go st37 ?_
  refine own_go (fun t k => XS.iconst X37.here hx rfl (hb hby d2_75) k) ?_
  show own_Run p e below Φ (T37.setTop (mkF m 76 #[.val (.ref a1), .val (.long q1), .second, .val (.ref w1), .val (.int (1 : Int32))] [(.int (0 : Int32)), (.ref b8), (.ref a1)]))
  refine own_aaload X37 hx hZ e37 V33 (j := (0 : Int32)) (v := (.ref b27)) rfl ⟨by decide, by decide⟩ rfl (g := (mkF m 76 #[.val (.ref a1), .val (.long q1), .second, .val (.ref w1), .val (.int (1 : Int32))] [(.int (0 : Int32)), (.ref b8), (.ref a1)])) rfl rfl (hb hby d2_76) ?_
  refine own_go (fun t k => XS.goto X37.here hx rfl (pc0 := 77) (pc' := 81) rfl (hb hby d2_77) (by decide) (by decide) k) ?_
  have F38 : Fld Z h33 a1 "com/example/hueline/hueline/model/BigIntArray" "flat" "[I" .null := ((((((H5.other W2 (Or.inr (slot_ne (Or.inl (hw _ (List.mem_of_getElem? (i := 48) rfl))) (Or.inr (hw _ (List.mem_of_getElem? (i := 17) rfl))) (by decide) (t := (.array .int)) (t' := (.object "com/example/hueline/hueline/model/Pages")) (by decide) (by decide)))).ext E8).other W14 (Or.inr (slot_ne (Or.inl (hw _ (List.mem_of_getElem? (i := 48) rfl))) (Or.inl (hw _ (List.mem_of_getElem? (i := 31) rfl))) (by decide) (t := (.array .int)) (t' := (.array (.array .int))) (by decide) (by decide)))).other W17 (Or.inr (slot_ne (Or.inl (hw _ (List.mem_of_getElem? (i := 48) rfl))) (Or.inl (hw _ (List.mem_of_getElem? (i := 33) rfl))) (by decide) (t := (.array .int)) (t' := .long) (by decide) (by decide)))).ext E27).other W33 (Or.inl ne_a1_b8))
  have F39 : Exa Z h33 a1 "com/example/hueline/hueline/model/BigIntArray" := ((F30.ext E27).wr W33)
  obtain ⟨T40, h40, X40, e40, W40, st40⟩ := putF X37 hx hZ hown (host := "") (Or.inl (hw _ (List.mem_of_getElem? (i := 47) rfl))) Via.refl e37 F38 F39 (Or.inl (hw _ (List.mem_of_getElem? (i := 48) rfl))) (hw _ (List.mem_of_getElem? (i := 2) rfl)) (ty := (.array .int)) (by decide) rfl rfl (g := (mkF m 81 #[.val (.ref a1), .val (.long q1), .second, .val (.ref w1), .val (.int (1 : Int32))] [(.ref b27), (.ref a1)])) rfl rfl (hb hby d2_81)
  refine own_go st40 ?_
  have G40 : Fld Z h40 a1 "com/example/hueline/hueline/model/BigIntArray" "flat" "[I" (.ref b27) := F38.same W40
  have N40 := Fr.snoc X40 N33 H6
  have F41 : Keep h0 h40 [a1] := (((F29.ext E27).wr W33 (Or.inr (Nat.le_trans F10.1 (Nat.le_of_eq g8.symm)))).wr W40 (Or.inl (List.mem_of_getElem? (i := 0) rfl)))
  have F42 : Fld Z h40 a1 "com/example/hueline/hueline/model/BigIntArray" "layout" "Lcom/example/hueline/hueline/model/Pages;" (.ref w1) := ((((((G2.ext E8).other W14 (Or.inr (slot_ne (Or.inr (hw _ (List.mem_of_getElem? (i := 17) rfl))) (Or.inl (hw _ (List.mem_of_getElem? (i := 31) rfl))) (by decide) (t := (.object "com/example/hueline/hueline/model/Pages")) (t' := (.array (.array .int))) (by decide) (by decide)))).other W17 (Or.inr (slot_ne (Or.inr (hw _ (List.mem_of_getElem? (i := 17) rfl))) (Or.inl (hw _ (List.mem_of_getElem? (i := 33) rfl))) (by decide) (t := (.object "com/example/hueline/hueline/model/Pages")) (t' := .long) (by decide) (by decide)))).ext E27).other W33 (Or.inl ne_a1_b8)).other W40 (Or.inr (slot_ne (Or.inr (hw _ (List.mem_of_getElem? (i := 17) rfl))) (Or.inl (hw _ (List.mem_of_getElem? (i := 48) rfl))) (by decide) (t := (.object "com/example/hueline/hueline/model/Pages")) (t' := (.array .int)) (by decide) (by decide))))
  have F43 : Fld Z h40 a1 "com/example/hueline/hueline/model/BigIntArray" "length" "J" (.long q1) := (((G17.ext E27).other W33 (Or.inl ne_a1_b8)).other W40 (Or.inr (slot_ne (Or.inl (hw _ (List.mem_of_getElem? (i := 33) rfl))) (Or.inl (hw _ (List.mem_of_getElem? (i := 48) rfl))) (by decide) (t := .long) (t' := (.array .int)) (by decide) (by decide))))
  have F44 : Arv Z h40 b27 k27 .int zl [(.int (0 : Int32)), (.int (0 : Int32)), (.int (0 : Int32)), (.int (0 : Int32)), (.int (0 : Int32)), (.int (0 : Int32)), (.int (0 : Int32)), (.int (0 : Int32)), (.int (0 : Int32)), (.int (0 : Int32)), (.int (0 : Int32)), (.int (0 : Int32)), (.int (0 : Int32)), (.int (0 : Int32)), (.int (0 : Int32)), (.int (0 : Int32))] (.int (0 : Int32)) := ((V27.other W33 (Ne.symm ne_b8_b27)).other W40 (Ne.symm ne_a1_b27))
  subst hΦ
  exact own_retV X40 hx Bd.returns hlk (hb hby d2_84) e40 ⟨rfl, N40, F41, F42, F43, ⟨_, _, (Nat.le_trans F28 (Nat.le_of_eq g27.symm)), (Nat.le_trans F29.1 (Nat.le_of_eq g27.symm)), G40, F44⟩⟩ (by decide) (by decide)
set_option maxRecDepth 65536 in
set_option maxHeartbeats 40000000 in
theorem rm_ct1 (l : Launch) (Z : State) (a0 : Array Value) (hw : ∀ d ∈ tables_1, d.before a0 Z = true) (a1 : Addr) (q1 : Int64) (w1 : Addr) (zl : Int32) (h0 : Heap) (n0 : Nat) (H1 : Exa Z h0 a1 "com/example/hueline/hueline/model/BigIntArray") (H2 : Fld Z h0 a1 "com/example/hueline/hueline/model/BigIntArray" "layout" "Lcom/example/hueline/hueline/model/Pages;" .null) (H3 : Fld Z h0 a1 "com/example/hueline/hueline/model/BigIntArray" "pages" "[[I" .null) (H4 : Fld Z h0 a1 "com/example/hueline/hueline/model/BigIntArray" "length" "J" (.long (0 : Int64))) (H5 : Fld Z h0 a1 "com/example/hueline/hueline/model/BigIntArray" "flat" "[I" .null) (H6 : n0 ≤ a1) (H7 : n0 ≤ h0.size) (H8 : Exa Z h0 w1 "com/example/hueline/hueline/model/Pages") (H9 : Fld Z h0 w1 "com/example/hueline/hueline/model/Pages" "mask" "I" (.int (3 : Int32))) (H10 : Fld Z h0 w1 "com/example/hueline/hueline/model/Pages" "shift" "I" (.int (2 : Int32))) (H11 : Fld Z h0 w1 "com/example/hueline/hueline/model/Pages" "length" "I" (.int (4 : Int32))) (H12 : w1 ≠ a1) (hz : 1 ≤ zl.toInt ∧ zl.toInt ≤ 4) (hn : q1.toInt = 0 + zl.toInt) :
    own_Met l Z (⟨"com/example/hueline/hueline/model/BigIntArray", "<init>", "(JLcom/example/hueline/hueline/model/Pages;)V"⟩ : MethodName) prog_36_method_2_code 5 none ({ frames := 2, cells := 2, slots := 5, locals := 32 } : Room) #[(.ref a1), (.long q1), (.ref w1)] h0 (fun v h L => v = none ∧ Fr n0 L ∧ Keep h0 h [a1] ∧ Fld Z h a1 "com/example/hueline/hueline/model/BigIntArray" "layout" "Lcom/example/hueline/hueline/model/Pages;" (.ref w1) ∧ Fld Z h a1 "com/example/hueline/hueline/model/BigIntArray" "length" "J" (.long q1) ∧ ∃ (x0 : Addr) (k0 : ClassId), n0 ≤ x0 ∧ h0.size ≤ x0 ∧ Fld Z h a1 "com/example/hueline/hueline/model/BigIntArray" "flat" "[I" (.ref x0) ∧ Arv Z h x0 k0 .int zl (own_fl own_z) (.int (0 : Int32))) := by
  intro ws
  refine MetFree.of_bodySF (plainFor_of_name pn_c1) hisR ?_
  intro p e s m args below meth c s₁ Bd hml0 hP hK
  obtain ⟨rfl, hZ, hh⟩ := hP
  have hx := Bd.exec
  have hby := Bd.bytes
  have hml : c.maxLocals = 5 := hml0
  have hown : s.vm.findClass "com/example/hueline/hueline/model/BigIntArray" = some m.cls := findClass_of_methodNamed Bd.named
  have hnm := (name_of_methodNamed Bd.named Bd.method).1
  have hlk : meth.locks = false := Bd.notSynchronized
  have X0 : Stand p l e ({ frames := 2, cells := 2, slots := 5, locals := 32 } : Room) s m #[(.ref a1), (.long q1), (.ref w1)] below meth c s₁ [] 0 0 := Stand.of_body Bd
  have e0 : s₁.heap = h0 := by rw [← hh, Bd.state]; rfl
  have N0 := Fr.nil n0
  refine own_body (Q := fun v h L => v = none ∧ Fr n0 L ∧ Keep h0 h [a1] ∧ Fld Z h a1 "com/example/hueline/hueline/model/BigIntArray" "layout" "Lcom/example/hueline/hueline/model/Pages;" (.ref w1) ∧ Fld Z h a1 "com/example/hueline/hueline/model/BigIntArray" "length" "J" (.long q1) ∧ ∃ (x0 : Addr) (k0 : ClassId), n0 ≤ x0 ∧ h0.size ≤ x0 ∧ Fld Z h a1 "com/example/hueline/hueline/model/BigIntArray" "flat" "[I" (.ref x0) ∧ Arv Z h x0 k0 .int zl (own_fl own_z) (.int (0 : Int32))) ?_
  generalize hΦ : own_Fin s below _ _ _ = Φ
  refine own_cast (ef_2_RJR m a1 q1 w1) ?_
  have K0 := Keep.refl h0 [a1]
  show own_Run p e below Φ (s₁.setTop (mkF m 0 #[.val (.ref a1), .val (.long q1), .second, .val (.ref w1), .unset] []))
  refine own_go (fun t k => XS.aloadN X0.here hx rfl (hb hby d2_0) rfl rfl  k) ?_
  obtain ⟨T1, X1, e1, st1⟩ := initO X0 hx hZ hown (hw _ (List.mem_of_getElem? (i := 13) rfl)) (hw _ (List.mem_of_getElem? (i := 14) rfl)) (hw _ (List.mem_of_getElem? (i := 15) rfl)) e0 (g := (mkF m 1 #[.val (.ref a1), .val (.long q1), .second, .val (.ref w1), .unset] [(.ref a1)])) rfl (by rw [hml]; rfl) rfl (hb hby d2_1) (by decide) (W := 0) (by show 2 * 0 + _ ≤ _; exact Nat.le_of_eq rfl) (by decide)
  refine own_go st1 ?_
  refine own_go (fun t k => XS.aloadN X1.here hx rfl (hb hby d2_4) rfl rfl  k) ?_
  refine own_go (fun t k => XS.aloadN X1.here hx rfl (hb hby d2_5) rfl rfl  k) ?_
  obtain ⟨T2, h2, X2, e2, W2, st2⟩ := putF X1 hx hZ hown (host := "") (Or.inl (hw _ (List.mem_of_getElem? (i := 16) rfl))) Via.refl e1 H2 H1 (Or.inr ⟨(hw _ (List.mem_of_getElem? (i := 17) rfl)), rfl, hnm⟩) (hw _ (List.mem_of_getElem? (i := 2) rfl)) (ty := (.object "com/example/hueline/hueline/model/Pages")) (by decide) rfl rfl (g := (mkF m 6 #[.val (.ref a1), .val (.long q1), .second, .val (.ref w1), .unset] [(.ref w1), (.ref a1)])) rfl rfl (hb hby d2_6)
  refine own_go st2 ?_
  have G2 : Fld Z h2 a1 "com/example/hueline/hueline/model/BigIntArray" "layout" "Lcom/example/hueline/hueline/model/Pages;" (.ref w1) := H2.same W2
  have N2 := Fr.snoc X2 N0 H6
  show own_Run p e below Φ (T2.setTop (mkF m 9 #[.val (.ref a1), .val (.long q1), .second, .val (.ref w1), .unset] []))
  refine own_go (fun t k => XS.aloadN X2.here hx rfl (hb hby d2_9) rfl rfl  k) ?_
  refine own_go (fun t k => XS.aloadN X2.here hx rfl (hb hby d2_10) rfl rfl  k) ?_
  refine own_go (fun t k => XS.lloadN X2.here hx rfl (hb hby d2_11) rfl  k) ?_
  have F3 : Fld Z h2 w1 "com/example/hueline/hueline/model/Pages" "mask" "I" (.int (3 : Int32)) := (H9.other W2 (Or.inl H12))
  have F4 : Fld Z h2 w1 "com/example/hueline/hueline/model/Pages" "shift" "I" (.int (2 : Int32)) := (H10.other W2 (Or.inl H12))
  have F6 : Exa Z h2 w1 "com/example/hueline/hueline/model/Pages" := (H8.wr W2)
  refine own_callV X2 hx hZ (y := (⟨"com/example/hueline/hueline/model/Pages", "count", "(J)I"⟩ : MethodName)) (z := (⟨"com/example/hueline/hueline/model/Pages", "count", "(J)I"⟩ : MethodName)) (W := 1) (a := w1) (argsL := [(.long q1)]) (rest := [(.ref a1)]) hown (hw _ (List.mem_of_getElem? (i := 18) rfl)) (hw _ (List.mem_of_getElem? (i := 19) rfl)) (notFace_of_selects (args := #[]) (mvT hZ (hw _ (List.mem_of_getElem? (i := 21) rfl)))) (hw _ (List.mem_of_getElem? (i := 21) rfl)) (hw _ (List.mem_of_getElem? (i := 20) rfl)) (by decide) (own_bk (rm_cnt l Z a0 hw w1 q1 (3 : Int32) (2 : Int32) (1 : Int64) (1 : Int32) h2 n0 F3 F4 (by omega) (own_cn 3 (by decide) 2 (by decide) (by decide) ⟨by omega, by omega, by decide⟩ (by show _ = (1 : Int); omega)) (by decide) (by decide)) hZ (hw _ (List.mem_of_getElem? (i := 22) rfl)) (hw _ (List.mem_of_getElem? (i := 8) rfl)) (by decide) (by decide)) e2 F6 (g := (mkF m 12 #[.val (.ref a1), .val (.long q1), .second, .val (.ref w1), .unset] [(.long q1), (.ref w1), (.ref a1)])) rfl (by rw [hml]; rfl) (lenOf pd_3 rfl) rfl (by show 2 * 0 + _ ≤ _; exact Nat.le_of_eq rfl) (hb hby d2_12) (by decide) (by decide) (fun v5 T5 h5 L5 X5 e5 q5 => ?_)
  obtain ⟨rfl, M5, s5⟩ := q5
  replace e5 : T5.heap = h2 := e5.trans s5
  have N5 := Fr.app N2 M5
  have F8 : n0 ≤ h2.size := (Nat.le_trans H7 (Keep.of_wr W2).1)
  have F9 : Keep h0 h2 [a1] := (K0.wr W2 (Or.inl (List.mem_of_getElem? (i := 0) rfl)))
  have F10 : Exa Z h2 a1 "com/example/hueline/hueline/model/BigIntArray" := (H1.wr W2)
  refine own_newRA X5 hx hZ hown (ty := .int) rfl (hw _ (List.mem_of_getElem? (i := 28) rfl)) (hw _ (List.mem_of_getElem? (i := 29) rfl)) e5 (g := (mkF m 15 #[.val (.ref a1), .val (.long q1), .second, .val (.ref w1), .unset] [(.int (1 : Int32)), (.ref a1)])) rfl (hb hby d2_15) rfl (by decide) 1 (by decide) (by decide) (by decide) (by decide) 1 (fun T7 h7 k7 b7 X7 e7 E7 g7 V7 O7 => ?_)
  have ne_a1_b7 : a1 ≠ b7 := Nat.ne_of_lt (Nat.lt_of_lt_of_le F10.lt (Nat.le_of_eq g7.symm))
  have ne_w1_b7 : w1 ≠ b7 := Nat.ne_of_lt (Nat.lt_of_lt_of_le F6.lt (Nat.le_of_eq g7.symm))
  replace V7 : Arv Z h7 b7 k7 (.array .int) (1 : Int32) [.null] .null := V7
  show own_Run p e below Φ (T7.setTop (mkF m 18 #[.val (.ref a1), .val (.long q1), .second, .val (.ref w1), .unset] [(.ref b7), (.ref a1)]))
  have F11 : Fld Z h7 a1 "com/example/hueline/hueline/model/BigIntArray" "pages" "[[I" .null := ((H3.other W2 (Or.inr (slot_ne (Or.inl (hw _ (List.mem_of_getElem? (i := 31) rfl))) (Or.inr (hw _ (List.mem_of_getElem? (i := 17) rfl))) (by decide) (t := (.array (.array .int))) (t' := (.object "com/example/hueline/hueline/model/Pages")) (by decide) (by decide)))).ext E7)
  have F12 : Exa Z h7 a1 "com/example/hueline/hueline/model/BigIntArray" := (F10.ext E7)
  obtain ⟨T13, h13, X13, e13, W13, st13⟩ := putF X7 hx hZ hown (host := "") (Or.inl (hw _ (List.mem_of_getElem? (i := 30) rfl))) Via.refl e7 F11 F12 (Or.inl (hw _ (List.mem_of_getElem? (i := 31) rfl))) (hw _ (List.mem_of_getElem? (i := 2) rfl)) (ty := (.array (.array .int))) (by decide) rfl rfl (g := (mkF m 18 #[.val (.ref a1), .val (.long q1), .second, .val (.ref w1), .unset] [(.ref b7), (.ref a1)])) rfl rfl (hb hby d2_18)
  refine own_go st13 ?_
  have G13 : Fld Z h13 a1 "com/example/hueline/hueline/model/BigIntArray" "pages" "[[I" (.ref b7) := F11.same W13
  have N13 := Fr.snoc X13 N5 H6
  refine own_go (fun t k => XS.aloadN X13.here hx rfl (hb hby d2_21) rfl rfl  k) ?_
  refine own_go (fun t k => XS.lloadN X13.here hx rfl (hb hby d2_22) rfl  k) ?_
  have F14 : Fld Z h13 a1 "com/example/hueline/hueline/model/BigIntArray" "length" "J" (.long (0 : Int64)) := (((H4.other W2 (Or.inr (slot_ne (Or.inl (hw _ (List.mem_of_getElem? (i := 33) rfl))) (Or.inr (hw _ (List.mem_of_getElem? (i := 17) rfl))) (by decide) (t := .long) (t' := (.object "com/example/hueline/hueline/model/Pages")) (by decide) (by decide)))).ext E7).other W13 (Or.inr (slot_ne (Or.inl (hw _ (List.mem_of_getElem? (i := 33) rfl))) (Or.inl (hw _ (List.mem_of_getElem? (i := 31) rfl))) (by decide) (t := .long) (t' := (.array (.array .int))) (by decide) (by decide))))
  have F15 : Exa Z h13 a1 "com/example/hueline/hueline/model/BigIntArray" := (F12.wr W13)
  obtain ⟨T16, h16, X16, e16, W16, st16⟩ := putF X13 hx hZ hown (host := "") (Or.inl (hw _ (List.mem_of_getElem? (i := 32) rfl))) Via.refl e13 F14 F15 (Or.inl (hw _ (List.mem_of_getElem? (i := 33) rfl))) (hw _ (List.mem_of_getElem? (i := 2) rfl)) (ty := .long) (by decide) rfl rfl (g := (mkF m 23 #[.val (.ref a1), .val (.long q1), .second, .val (.ref w1), .unset] [(.long q1), (.ref a1)])) rfl rfl (hb hby d2_23)
  refine own_go st16 ?_
  have G16 : Fld Z h16 a1 "com/example/hueline/hueline/model/BigIntArray" "length" "J" (.long q1) := F14.same W16
  have N16 := Fr.snoc X16 N13 H6
  refine own_go (fun t k => XS.iconst X16.here hx rfl (hb hby d2_26) k) ?_
  show own_Run p e below Φ (T16.setTop (mkF m 27 #[.val (.ref a1), .val (.long q1), .second, .val (.ref w1), .unset] [(.int (0 : Int32))]))
  refine own_go (fun t k => XS.istore X16.here hx rfl (hb hby d2_27) rfl (l' := #[.val (.ref a1), .val (.long q1), .second, .val (.ref w1), .val (.int (0 : Int32))]) rfl k) ?_
  refine own_go (fun t k => XS.iload X16.here hx rfl (hb hby d2_29) rfl  k) ?_
  refine own_go (fun t k => XS.aloadN X16.here hx rfl (hb hby d2_31) rfl rfl  k) ?_
  have F17 : Fld Z h16 a1 "com/example/hueline/hueline/model/BigIntArray" "pages" "[[I" (.ref b7) := (G13.other W16 (Or.inr (slot_ne (Or.inl (hw _ (List.mem_of_getElem? (i := 31) rfl))) (Or.inl (hw _ (List.mem_of_getElem? (i := 33) rfl))) (by decide) (t := (.array (.array .int))) (t' := .long) (by decide) (by decide))))
  obtain ⟨T18, X18, e18, st18⟩ := getF X16 hx hZ hown (host := "") (Or.inl (hw _ (List.mem_of_getElem? (i := 30) rfl))) Via.refl e16 F17 (g := (mkF m 32 #[.val (.ref a1), .val (.long q1), .second, .val (.ref w1), .val (.int (0 : Int32))] [(.ref a1), (.int (0 : Int32))])) rfl rfl (hb hby d2_32)
  refine own_go st18 ?_
  have F19 : Arv Z h16 b7 k7 (.array .int) (1 : Int32) [.null] .null := ((V7.other W13 (Ne.symm ne_a1_b7)).other W16 (Ne.symm ne_a1_b7))
  refine own_arrlen X18 hx hZ e18 F19 (g := (mkF m 35 #[.val (.ref a1), .val (.long q1), .second, .val (.ref w1), .val (.int (0 : Int32))] [(.ref b7), (.int (0 : Int32))])) rfl rfl (hb hby d2_35) ?_
  show own_Run p e below Φ (T18.setTop (mkF m 36 #[.val (.ref a1), .val (.long q1), .second, .val (.ref w1), .val (.int (0 : Int32))] [(.int (1 : Int32)), (.int (0 : Int32))]))
  refine own_go (fun t k => XS.icmpNo X18.here hx rfl (hb hby d2_36) rfl (tlt (by decide : (0 : Int32) < (1 : Int32))).2.1 k) ?_
  refine own_go (fun t k => XS.aloadN X18.here hx rfl (hb hby d2_39) rfl rfl  k) ?_
  obtain ⟨T20, X20, e20, st20⟩ := getF X18 hx hZ hown (host := "") (Or.inl (hw _ (List.mem_of_getElem? (i := 30) rfl))) Via.refl e18 F17 (g := (mkF m 40 #[.val (.ref a1), .val (.long q1), .second, .val (.ref w1), .val (.int (0 : Int32))] [(.ref a1)])) rfl rfl (hb hby d2_40)
  refine own_go st20 ?_
  refine own_go (fun t k => XS.iload X20.here hx rfl (hb hby d2_43) rfl  k) ?_
  refine own_go (fun t k => XS.aloadN X20.here hx rfl (hb hby d2_45) rfl rfl  k) ?_
  show own_Run p e below Φ (T20.setTop (mkF m 46 #[.val (.ref a1), .val (.long q1), .second, .val (.ref w1), .val (.int (0 : Int32))] [(.ref w1), (.int (0 : Int32)), (.ref b7)]))
  refine own_go (fun t k => XS.lloadN X20.here hx rfl (hb hby d2_46) rfl  k) ?_
  refine own_go (fun t k => XS.iload X20.here hx rfl (hb hby d2_47) rfl  k) ?_
  have F21 : Fld Z h16 w1 "com/example/hueline/hueline/model/Pages" "length" "I" (.int (4 : Int32)) := ((((H11.other W2 (Or.inl H12)).ext E7).other W13 (Or.inl H12)).other W16 (Or.inl H12))
  have F22 : Fld Z h16 w1 "com/example/hueline/hueline/model/Pages" "shift" "I" (.int (2 : Int32)) := (((F4.ext E7).other W13 (Or.inl H12)).other W16 (Or.inl H12))
  have F24 : Exa Z h16 w1 "com/example/hueline/hueline/model/Pages" := (((F6.ext E7).wr W13).wr W16)
  refine own_callV X20 hx hZ (y := (⟨"com/example/hueline/hueline/model/Pages", "length", "(JI)I"⟩ : MethodName)) (z := (⟨"com/example/hueline/hueline/model/Pages", "length", "(JI)I"⟩ : MethodName)) (W := 2) (a := w1) (argsL := [(.long q1), (.int (0 : Int32))]) (rest := [(.int (0 : Int32)), (.ref b7)]) hown (hw _ (List.mem_of_getElem? (i := 34) rfl)) (hw _ (List.mem_of_getElem? (i := 35) rfl)) (notFace_of_selects (args := #[]) (mvT hZ (hw _ (List.mem_of_getElem? (i := 37) rfl)))) (hw _ (List.mem_of_getElem? (i := 37) rfl)) (hw _ (List.mem_of_getElem? (i := 36) rfl)) (by decide) (own_bk (rm_len l Z a0 hw w1 q1 (0 : Int32) (4 : Int32) (2 : Int32) zl h16 n0 F21 F22 (own_ln 0 (by decide) 4 (by decide) (by omega) (by omega) (by omega) (by omega) (by first | exact Or.inl ⟨by omega, by decide⟩ | exact Or.inr ⟨by omega, by omega⟩))) hZ (hw _ (List.mem_of_getElem? (i := 38) rfl)) (hw _ (List.mem_of_getElem? (i := 8) rfl)) (by decide) (by decide)) e20 F24 (g := (mkF m 49 #[.val (.ref a1), .val (.long q1), .second, .val (.ref w1), .val (.int (0 : Int32))] [(.int (0 : Int32)), (.long q1), (.ref w1), (.int (0 : Int32)), (.ref b7)])) rfl (by rw [hml]; rfl) (lenOf pd_4 rfl) rfl (by show 2 * 0 + _ ≤ _; exact Nat.le_of_eq rfl) (hb hby d2_49) (by decide) (by decide) (fun v23 T23 h23 L23 X23 e23 q23 => ?_)
  obtain ⟨rfl, M23, s23⟩ := q23
  replace e23 : T23.heap = h16 := e23.trans s23
  have N23 := Fr.app N16 M23
  have F26 : n0 ≤ h16.size := (Nat.le_trans (Nat.le_trans (Nat.le_trans F8 E7.1) (Keep.of_wr W13).1) (Keep.of_wr W16).1)
  have F27 : Keep h0 h16 [a1] := (((F9.ext E7).wr W13 (Or.inl (List.mem_of_getElem? (i := 0) rfl))).wr W16 (Or.inl (List.mem_of_getElem? (i := 0) rfl)))
  have F28 : Exa Z h16 a1 "com/example/hueline/hueline/model/BigIntArray" := (F15.wr W16)
  refine own_newPE X23 hx hZ (hw _ (List.mem_of_getElem? (i := 45) rfl)) e23 (g := (mkF m 52 #[.val (.ref a1), .val (.long q1), .second, .val (.ref w1), .val (.int (0 : Int32))] [(.int zl), (.int (0 : Int32)), (.ref b7)])) rfl (hb hby d2_52) rfl (fun q => by rw [Int32.lt_iff_toInt_lt] at q; simp only [Int32.reduceToInt] at q; omega) 4 (by show zl.toInt.toNat ≤ 4; omega) (by decide) (by decide) (by decide) 16 "[I" rfl (fun T25 h25 k25 b25 X25 e25 E25 g25 V25 Y25 => ?_)
  have ne_a1_b25 : a1 ≠ b25 := Nat.ne_of_lt (Nat.lt_of_lt_of_le F28.lt (Nat.le_of_eq g25.symm))
  have ne_w1_b25 : w1 ≠ b25 := Nat.ne_of_lt (Nat.lt_of_lt_of_le F24.lt (Nat.le_of_eq g25.symm))
  have ne_b7_b25 : b7 ≠ b25 := Nat.ne_of_lt (Nat.lt_of_lt_of_le F19.lt (Nat.le_of_eq g25.symm))
  replace V25 : Arv Z h25 b25 k25 .int zl [(.int (0 : Int32)), (.int (0 : Int32)), (.int (0 : Int32)), (.int (0 : Int32)), (.int (0 : Int32)), (.int (0 : Int32)), (.int (0 : Int32)), (.int (0 : Int32)), (.int (0 : Int32)), (.int (0 : Int32)), (.int (0 : Int32)), (.int (0 : Int32)), (.int (0 : Int32)), (.int (0 : Int32)), (.int (0 : Int32)), (.int (0 : Int32))] (.int (0 : Int32)) := V25
  have F30 : Arv Z h25 b7 k7 (.array .int) (1 : Int32) [.null] .null := (F19.ext E25)
  refine own_aastore X25 hx hZ e25 F30 O7 Y25 (hw _ (List.mem_of_getElem? (i := 46) rfl)) (j := (0 : Int32)) ⟨by decide, by decide⟩ 0 rfl (Nat.le_of_ble_eq_true rfl) (g := (mkF m 54 #[.val (.ref a1), .val (.long q1), .second, .val (.ref w1), .val (.int (0 : Int32))] [(.ref b25), (.int (0 : Int32)), (.ref b7)])) rfl rfl (hb hby d2_54) (fun T31 h31 X31 e31 W31 V31 => ?_)
  replace V31 : Arv Z h31 b7 k7 (.array .int) (1 : Int32) [(.ref b25)] .null := V31
  have N31 := Fr.snoc X31 N23 (Nat.le_trans F8 (Nat.le_of_eq g7.symm))
  show own_Run p e below Φ (T31.setTop (mkF m 55 #[.val (.ref a1), .val (.long q1), .second, .val (.ref w1), .val (.int (0 : Int32))] []))
  refine own_go (fun t k => XS.iinc X31.here hx rfl (hb hby d2_55) rfl (l' := #[.val (.ref a1), .val (.long q1), .second, .val (.ref w1), .val (.int ((0 : Int32) + (1 : Int32)))]) rfl k) ?_
  show own_Run p e below Φ (T31.setTop (mkF m 58 #[.val (.ref a1), .val (.long q1), .second, .val (.ref w1), .val (.int ((0 : Int32) + (1 : Int32)))] []))
  rw [show ((0 : Int32) + (1 : Int32)) = (1 : Int32) from by decide]
  show own_Run p e below Φ (T31.setTop (mkF m 58 #[.val (.ref a1), .val (.long q1), .second, .val (.ref w1), .val (.int (1 : Int32))] []))
  refine own_go (fun t k => XS.goto X31.here hx rfl (pc0 := 58) (pc' := 29) rfl (hb hby d2_58) (by decide) (by decide) k) ?_
  refine own_go (fun t k => XS.iload X31.here hx rfl (hb hby d2_29) rfl  k) ?_
  refine own_go (fun t k => XS.aloadN X31.here hx rfl (hb hby d2_31) rfl rfl  k) ?_
  have F32 : Fld Z h31 a1 "com/example/hueline/hueline/model/BigIntArray" "pages" "[[I" (.ref b7) := ((F17.ext E25).other W31 (Or.inl ne_a1_b7))
  obtain ⟨T33, X33, e33, st33⟩ := getF X31 hx hZ hown (host := "") (Or.inl (hw _ (List.mem_of_getElem? (i := 30) rfl))) Via.refl e31 F32 (g := (mkF m 32 #[.val (.ref a1), .val (.long q1), .second, .val (.ref w1), .val (.int (1 : Int32))] [(.ref a1), (.int (1 : Int32))])) rfl rfl (hb hby d2_32)
  refine own_go st33 ?_
  refine own_arrlen X33 hx hZ e33 V31 (g := (mkF m 35 #[.val (.ref a1), .val (.long q1), .second, .val (.ref w1), .val (.int (1 : Int32))] [(.ref b7), (.int (1 : Int32))])) rfl rfl (hb hby d2_35) ?_
  show own_Run p e below Φ (T33.setTop (mkF m 36 #[.val (.ref a1), .val (.long q1), .second, .val (.ref w1), .val (.int (1 : Int32))] [(.int (1 : Int32)), (.int (1 : Int32))]))
  refine own_go (fun t k => XS.icmpYes X33.here hx rfl (pc0 := 36) (pc' := 61) rfl (hb hby d2_36) rfl (flt (by decide : ¬ ((1 : Int32) < (1 : Int32)))).2.1 (by decide) (by decide) k) ?_
  refine own_go (fun t k => XS.aloadN X33.here hx rfl (hb hby d2_61) rfl rfl  k) ?_
  refine own_go (fun t k => XS.aloadN X33.here hx rfl (hb hby d2_62) rfl rfl  k) ?_
  obtain ⟨T34, X34, e34, st34⟩ := getF X33 hx hZ hown (host := "") (Or.inl (hw _ (List.mem_of_getElem? (i := 30) rfl))) Via.refl e33 F32 (g := (mkF m 63 #[.val (.ref a1), .val (.long q1), .second, .val (.ref w1), .val (.int (1 : Int32))] [(.ref a1), (.ref a1)])) rfl rfl (hb hby d2_63)
  refine own_go st34 ?_
  refine own_arrlen X34 hx hZ e34 V31 (g := (mkF m 66 #[.val (.ref a1), .val (.long q1), .second, .val (.ref w1), .val (.int (1 : Int32))] [(.ref b7), (.ref a1)])) rfl rfl (hb hby d2_66) ?_
  show own_Run p e below Φ (T34.setTop (mkF m 67 #[.val (.ref a1), .val (.long q1), .second, .val (.ref w1), .val (.int (1 : Int32))] [(.int (1 : Int32)), (.ref a1)]))
  refine own_go (fun t k => XS.iconst X34.here hx rfl (hb hby d2_67) k) ?_
  refine own_go (fun t k => XS.icmpNo X34.here hx rfl (hb hby d2_68) rfl (teq (rfl : (1 : Int32) = (1 : Int32))).2 k) ?_
  refine own_go (fun t k => XS.aloadN X34.here hx rfl (hb hby d2_71) rfl rfl  k) ?_
  obtain ⟨T35, X35, e35, st35⟩ := getF X34 hx hZ hown (host := "") (Or.inl (hw _ (List.mem_of_getElem? (i := 30) rfl))) Via.refl e34 F32 (g := (mkF m 72 #[.val (.ref a1), .val (.long q1), .second, .val (.ref w1), .val (.int (1 : Int32))] [(.ref a1), (.ref a1)])) rfl rfl (hb hby d2_72)
  refine own_go st35 ?_
  refine own_go (fun t k => XS.iconst X35.here hx rfl (hb hby d2_75) k) ?_
  show own_Run p e below Φ (T35.setTop (mkF m 76 #[.val (.ref a1), .val (.long q1), .second, .val (.ref w1), .val (.int (1 : Int32))] [(.int (0 : Int32)), (.ref b7), (.ref a1)]))
  refine own_aaload X35 hx hZ e35 V31 (j := (0 : Int32)) (v := (.ref b25)) rfl ⟨by decide, by decide⟩ rfl (g := (mkF m 76 #[.val (.ref a1), .val (.long q1), .second, .val (.ref w1), .val (.int (1 : Int32))] [(.int (0 : Int32)), (.ref b7), (.ref a1)])) rfl rfl (hb hby d2_76) ?_
  refine own_go (fun t k => XS.goto X35.here hx rfl (pc0 := 77) (pc' := 81) rfl (hb hby d2_77) (by decide) (by decide) k) ?_
  have F36 : Fld Z h31 a1 "com/example/hueline/hueline/model/BigIntArray" "flat" "[I" .null := ((((((H5.other W2 (Or.inr (slot_ne (Or.inl (hw _ (List.mem_of_getElem? (i := 48) rfl))) (Or.inr (hw _ (List.mem_of_getElem? (i := 17) rfl))) (by decide) (t := (.array .int)) (t' := (.object "com/example/hueline/hueline/model/Pages")) (by decide) (by decide)))).ext E7).other W13 (Or.inr (slot_ne (Or.inl (hw _ (List.mem_of_getElem? (i := 48) rfl))) (Or.inl (hw _ (List.mem_of_getElem? (i := 31) rfl))) (by decide) (t := (.array .int)) (t' := (.array (.array .int))) (by decide) (by decide)))).other W16 (Or.inr (slot_ne (Or.inl (hw _ (List.mem_of_getElem? (i := 48) rfl))) (Or.inl (hw _ (List.mem_of_getElem? (i := 33) rfl))) (by decide) (t := (.array .int)) (t' := .long) (by decide) (by decide)))).ext E25).other W31 (Or.inl ne_a1_b7))
  have F37 : Exa Z h31 a1 "com/example/hueline/hueline/model/BigIntArray" := ((F28.ext E25).wr W31)
  obtain ⟨T38, h38, X38, e38, W38, st38⟩ := putF X35 hx hZ hown (host := "") (Or.inl (hw _ (List.mem_of_getElem? (i := 47) rfl))) Via.refl e35 F36 F37 (Or.inl (hw _ (List.mem_of_getElem? (i := 48) rfl))) (hw _ (List.mem_of_getElem? (i := 2) rfl)) (ty := (.array .int)) (by decide) rfl rfl (g := (mkF m 81 #[.val (.ref a1), .val (.long q1), .second, .val (.ref w1), .val (.int (1 : Int32))] [(.ref b25), (.ref a1)])) rfl rfl (hb hby d2_81)
  refine own_go st38 ?_
  have G38 : Fld Z h38 a1 "com/example/hueline/hueline/model/BigIntArray" "flat" "[I" (.ref b25) := F36.same W38
  have N38 := Fr.snoc X38 N31 H6
  have F39 : Keep h0 h38 [a1] := (((F27.ext E25).wr W31 (Or.inr (Nat.le_trans F9.1 (Nat.le_of_eq g7.symm)))).wr W38 (Or.inl (List.mem_of_getElem? (i := 0) rfl)))
  have F40 : Fld Z h38 a1 "com/example/hueline/hueline/model/BigIntArray" "layout" "Lcom/example/hueline/hueline/model/Pages;" (.ref w1) := ((((((G2.ext E7).other W13 (Or.inr (slot_ne (Or.inr (hw _ (List.mem_of_getElem? (i := 17) rfl))) (Or.inl (hw _ (List.mem_of_getElem? (i := 31) rfl))) (by decide) (t := (.object "com/example/hueline/hueline/model/Pages")) (t' := (.array (.array .int))) (by decide) (by decide)))).other W16 (Or.inr (slot_ne (Or.inr (hw _ (List.mem_of_getElem? (i := 17) rfl))) (Or.inl (hw _ (List.mem_of_getElem? (i := 33) rfl))) (by decide) (t := (.object "com/example/hueline/hueline/model/Pages")) (t' := .long) (by decide) (by decide)))).ext E25).other W31 (Or.inl ne_a1_b7)).other W38 (Or.inr (slot_ne (Or.inr (hw _ (List.mem_of_getElem? (i := 17) rfl))) (Or.inl (hw _ (List.mem_of_getElem? (i := 48) rfl))) (by decide) (t := (.object "com/example/hueline/hueline/model/Pages")) (t' := (.array .int)) (by decide) (by decide))))
  have F41 : Fld Z h38 a1 "com/example/hueline/hueline/model/BigIntArray" "length" "J" (.long q1) := (((G16.ext E25).other W31 (Or.inl ne_a1_b7)).other W38 (Or.inr (slot_ne (Or.inl (hw _ (List.mem_of_getElem? (i := 33) rfl))) (Or.inl (hw _ (List.mem_of_getElem? (i := 48) rfl))) (by decide) (t := .long) (t' := (.array .int)) (by decide) (by decide))))
  have F42 : Arv Z h38 b25 k25 .int zl [(.int (0 : Int32)), (.int (0 : Int32)), (.int (0 : Int32)), (.int (0 : Int32)), (.int (0 : Int32)), (.int (0 : Int32)), (.int (0 : Int32)), (.int (0 : Int32)), (.int (0 : Int32)), (.int (0 : Int32)), (.int (0 : Int32)), (.int (0 : Int32)), (.int (0 : Int32)), (.int (0 : Int32)), (.int (0 : Int32)), (.int (0 : Int32))] (.int (0 : Int32)) := ((V25.other W31 (Ne.symm ne_b7_b25)).other W38 (Ne.symm ne_a1_b25))
  subst hΦ
  exact own_retV X38 hx Bd.returns hlk (hb hby d2_84) e38 ⟨rfl, N38, F39, F40, F41, ⟨_, _, (Nat.le_trans F26 (Nat.le_of_eq g25.symm)), (Nat.le_trans F27.1 (Nat.le_of_eq g25.symm)), G38, F42⟩⟩ (by decide) (by decide)
theorem d2_80 : decode prog_36_method_2_code 80 = .ok (.aconst_null, 1) := by decide +kernel
set_option maxRecDepth 65536 in
set_option maxHeartbeats 40000000 in
theorem rm_ct2 (l : Launch) (Z : State) (a0 : Array Value) (hw : ∀ d ∈ tables_1, d.before a0 Z = true) (a1 : Addr) (q1 : Int64) (w1 : Addr) (zl : Int32) (h0 : Heap) (n0 : Nat) (H1 : Exa Z h0 a1 "com/example/hueline/hueline/model/BigIntArray") (H2 : Fld Z h0 a1 "com/example/hueline/hueline/model/BigIntArray" "layout" "Lcom/example/hueline/hueline/model/Pages;" .null) (H3 : Fld Z h0 a1 "com/example/hueline/hueline/model/BigIntArray" "pages" "[[I" .null) (H4 : Fld Z h0 a1 "com/example/hueline/hueline/model/BigIntArray" "length" "J" (.long (0 : Int64))) (H5 : Fld Z h0 a1 "com/example/hueline/hueline/model/BigIntArray" "flat" "[I" .null) (H6 : n0 ≤ a1) (H7 : n0 ≤ h0.size) (H8 : Exa Z h0 w1 "com/example/hueline/hueline/model/Pages") (H9 : Fld Z h0 w1 "com/example/hueline/hueline/model/Pages" "mask" "I" (.int (3 : Int32))) (H10 : Fld Z h0 w1 "com/example/hueline/hueline/model/Pages" "shift" "I" (.int (2 : Int32))) (H11 : Fld Z h0 w1 "com/example/hueline/hueline/model/Pages" "length" "I" (.int (4 : Int32))) (H12 : w1 ≠ a1) (hz : 1 ≤ zl.toInt ∧ zl.toInt ≤ 4) (hn : q1.toInt = 4 + zl.toInt) :
    own_Met l Z (⟨"com/example/hueline/hueline/model/BigIntArray", "<init>", "(JLcom/example/hueline/hueline/model/Pages;)V"⟩ : MethodName) prog_36_method_2_code 5 none ({ frames := 2, cells := 3, slots := 10, locals := 32 } : Room) #[(.ref a1), (.long q1), (.ref w1)] h0 (fun v h L => v = none ∧ Fr n0 L ∧ Keep h0 h [a1] ∧ Fld Z h a1 "com/example/hueline/hueline/model/BigIntArray" "layout" "Lcom/example/hueline/hueline/model/Pages;" (.ref w1) ∧ Fld Z h a1 "com/example/hueline/hueline/model/BigIntArray" "length" "J" (.long q1) ∧ Fld Z h a1 "com/example/hueline/hueline/model/BigIntArray" "flat" "[I" .null ∧ ∃ (x9 : Addr) (k9 : ClassId) (x0 : Addr) (k0 : ClassId) (x1 : Addr) (k1 : ClassId), n0 ≤ x9 ∧ h0.size ≤ x9 ∧ n0 ≤ x0 ∧ h0.size ≤ x0 ∧ n0 ≤ x1 ∧ h0.size ≤ x1 ∧ x9 ≠ x0 ∧ x9 ≠ x1 ∧ x0 ≠ x1 ∧ Fld Z h a1 "com/example/hueline/hueline/model/BigIntArray" "pages" "[[I" (.ref x9) ∧ Arv Z h x9 k9 (.array .int) (2 : Int32) [(.ref x0), (.ref x1)] .null ∧ Arv Z h x0 k0 .int (4 : Int32) (own_p0 own_z) (.int (0 : Int32)) ∧ Arv Z h x1 k1 .int zl (own_p1 own_z) (.int (0 : Int32))) := by
  intro ws
  refine MetFree.of_bodySF (plainFor_of_name pn_c1) hisR ?_
  intro p e s m args below meth c s₁ Bd hml0 hP hK
  obtain ⟨rfl, hZ, hh⟩ := hP
  have hx := Bd.exec
  have hby := Bd.bytes
  have hml : c.maxLocals = 5 := hml0
  have hown : s.vm.findClass "com/example/hueline/hueline/model/BigIntArray" = some m.cls := findClass_of_methodNamed Bd.named
  have hnm := (name_of_methodNamed Bd.named Bd.method).1
  have hlk : meth.locks = false := Bd.notSynchronized
  have X0 : Stand p l e ({ frames := 2, cells := 3, slots := 10, locals := 32 } : Room) s m #[(.ref a1), (.long q1), (.ref w1)] below meth c s₁ [] 0 0 := Stand.of_body Bd
  have e0 : s₁.heap = h0 := by rw [← hh, Bd.state]; rfl
  have N0 := Fr.nil n0
  refine own_body (Q := fun v h L => v = none ∧ Fr n0 L ∧ Keep h0 h [a1] ∧ Fld Z h a1 "com/example/hueline/hueline/model/BigIntArray" "layout" "Lcom/example/hueline/hueline/model/Pages;" (.ref w1) ∧ Fld Z h a1 "com/example/hueline/hueline/model/BigIntArray" "length" "J" (.long q1) ∧ Fld Z h a1 "com/example/hueline/hueline/model/BigIntArray" "flat" "[I" .null ∧ ∃ (x9 : Addr) (k9 : ClassId) (x0 : Addr) (k0 : ClassId) (x1 : Addr) (k1 : ClassId), n0 ≤ x9 ∧ h0.size ≤ x9 ∧ n0 ≤ x0 ∧ h0.size ≤ x0 ∧ n0 ≤ x1 ∧ h0.size ≤ x1 ∧ x9 ≠ x0 ∧ x9 ≠ x1 ∧ x0 ≠ x1 ∧ Fld Z h a1 "com/example/hueline/hueline/model/BigIntArray" "pages" "[[I" (.ref x9) ∧ Arv Z h x9 k9 (.array .int) (2 : Int32) [(.ref x0), (.ref x1)] .null ∧ Arv Z h x0 k0 .int (4 : Int32) (own_p0 own_z) (.int (0 : Int32)) ∧ Arv Z h x1 k1 .int zl (own_p1 own_z) (.int (0 : Int32))) ?_
  generalize hΦ : own_Fin s below _ _ _ = Φ
  refine own_cast (ef_2_RJR m a1 q1 w1) ?_
  have K0 := Keep.refl h0 [a1]
  show own_Run p e below Φ (s₁.setTop (mkF m 0 #[.val (.ref a1), .val (.long q1), .second, .val (.ref w1), .unset] []))
  refine own_go (fun t k => XS.aloadN X0.here hx rfl (hb hby d2_0) rfl rfl  k) ?_
  obtain ⟨T1, X1, e1, st1⟩ := initO X0 hx hZ hown (hw _ (List.mem_of_getElem? (i := 13) rfl)) (hw _ (List.mem_of_getElem? (i := 14) rfl)) (hw _ (List.mem_of_getElem? (i := 15) rfl)) e0 (g := (mkF m 1 #[.val (.ref a1), .val (.long q1), .second, .val (.ref w1), .unset] [(.ref a1)])) rfl (by rw [hml]; rfl) rfl (hb hby d2_1) (by decide) (W := 0) (by show 2 * 0 + _ ≤ _; exact Nat.le_of_eq rfl) (by decide)
  refine own_go st1 ?_
  refine own_go (fun t k => XS.aloadN X1.here hx rfl (hb hby d2_4) rfl rfl  k) ?_
  refine own_go (fun t k => XS.aloadN X1.here hx rfl (hb hby d2_5) rfl rfl  k) ?_
  obtain ⟨T2, h2, X2, e2, W2, st2⟩ := putF X1 hx hZ hown (host := "") (Or.inl (hw _ (List.mem_of_getElem? (i := 16) rfl))) Via.refl e1 H2 H1 (Or.inr ⟨(hw _ (List.mem_of_getElem? (i := 17) rfl)), rfl, hnm⟩) (hw _ (List.mem_of_getElem? (i := 2) rfl)) (ty := (.object "com/example/hueline/hueline/model/Pages")) (by decide) rfl rfl (g := (mkF m 6 #[.val (.ref a1), .val (.long q1), .second, .val (.ref w1), .unset] [(.ref w1), (.ref a1)])) rfl rfl (hb hby d2_6)
  refine own_go st2 ?_
  have G2 : Fld Z h2 a1 "com/example/hueline/hueline/model/BigIntArray" "layout" "Lcom/example/hueline/hueline/model/Pages;" (.ref w1) := H2.same W2
  have N2 := Fr.snoc X2 N0 H6
  show own_Run p e below Φ (T2.setTop (mkF m 9 #[.val (.ref a1), .val (.long q1), .second, .val (.ref w1), .unset] []))
  refine own_go (fun t k => XS.aloadN X2.here hx rfl (hb hby d2_9) rfl rfl  k) ?_
  refine own_go (fun t k => XS.aloadN X2.here hx rfl (hb hby d2_10) rfl rfl  k) ?_
  refine own_go (fun t k => XS.lloadN X2.here hx rfl (hb hby d2_11) rfl  k) ?_
  have F3 : Fld Z h2 w1 "com/example/hueline/hueline/model/Pages" "mask" "I" (.int (3 : Int32)) := (H9.other W2 (Or.inl H12))
  have F4 : Fld Z h2 w1 "com/example/hueline/hueline/model/Pages" "shift" "I" (.int (2 : Int32)) := (H10.other W2 (Or.inl H12))
  have F6 : Exa Z h2 w1 "com/example/hueline/hueline/model/Pages" := (H8.wr W2)
  refine own_callV X2 hx hZ (y := (⟨"com/example/hueline/hueline/model/Pages", "count", "(J)I"⟩ : MethodName)) (z := (⟨"com/example/hueline/hueline/model/Pages", "count", "(J)I"⟩ : MethodName)) (W := 1) (a := w1) (argsL := [(.long q1)]) (rest := [(.ref a1)]) hown (hw _ (List.mem_of_getElem? (i := 18) rfl)) (hw _ (List.mem_of_getElem? (i := 19) rfl)) (notFace_of_selects (args := #[]) (mvT hZ (hw _ (List.mem_of_getElem? (i := 21) rfl)))) (hw _ (List.mem_of_getElem? (i := 21) rfl)) (hw _ (List.mem_of_getElem? (i := 20) rfl)) (by decide) (own_bk (rm_cnt l Z a0 hw w1 q1 (3 : Int32) (2 : Int32) (2 : Int64) (2 : Int32) h2 n0 F3 F4 (by omega) (own_cn 3 (by decide) 2 (by decide) (by decide) ⟨by omega, by omega, by decide⟩ (by show _ = (2 : Int); omega)) (by decide) (by decide)) hZ (hw _ (List.mem_of_getElem? (i := 22) rfl)) (hw _ (List.mem_of_getElem? (i := 8) rfl)) (by decide) (by decide)) e2 F6 (g := (mkF m 12 #[.val (.ref a1), .val (.long q1), .second, .val (.ref w1), .unset] [(.long q1), (.ref w1), (.ref a1)])) rfl (by rw [hml]; rfl) (lenOf pd_3 rfl) rfl (by show 2 * 0 + _ ≤ _; exact Nat.le_of_eq rfl) (hb hby d2_12) (by decide) (by decide) (fun v5 T5 h5 L5 X5 e5 q5 => ?_)
  obtain ⟨rfl, M5, s5⟩ := q5
  replace e5 : T5.heap = h2 := e5.trans s5
  have N5 := Fr.app N2 M5
  have F8 : n0 ≤ h2.size := (Nat.le_trans H7 (Keep.of_wr W2).1)
  have F9 : Keep h0 h2 [a1] := (K0.wr W2 (Or.inl (List.mem_of_getElem? (i := 0) rfl)))
  have F10 : Exa Z h2 a1 "com/example/hueline/hueline/model/BigIntArray" := (H1.wr W2)
  refine own_newRA X5 hx hZ hown (ty := .int) rfl (hw _ (List.mem_of_getElem? (i := 28) rfl)) (hw _ (List.mem_of_getElem? (i := 29) rfl)) e5 (g := (mkF m 15 #[.val (.ref a1), .val (.long q1), .second, .val (.ref w1), .unset] [(.int (2 : Int32)), (.ref a1)])) rfl (hb hby d2_15) rfl (by decide) 2 (by decide) (by decide) (by decide) (by decide) 2 (fun T7 h7 k7 b7 X7 e7 E7 g7 V7 O7 => ?_)
  have ne_a1_b7 : a1 ≠ b7 := Nat.ne_of_lt (Nat.lt_of_lt_of_le F10.lt (Nat.le_of_eq g7.symm))
  have ne_w1_b7 : w1 ≠ b7 := Nat.ne_of_lt (Nat.lt_of_lt_of_le F6.lt (Nat.le_of_eq g7.symm))
  replace V7 : Arv Z h7 b7 k7 (.array .int) (2 : Int32) [.null, .null] .null := V7
  show own_Run p e below Φ (T7.setTop (mkF m 18 #[.val (.ref a1), .val (.long q1), .second, .val (.ref w1), .unset] [(.ref b7), (.ref a1)]))
  have F11 : Fld Z h7 a1 "com/example/hueline/hueline/model/BigIntArray" "pages" "[[I" .null := ((H3.other W2 (Or.inr (slot_ne (Or.inl (hw _ (List.mem_of_getElem? (i := 31) rfl))) (Or.inr (hw _ (List.mem_of_getElem? (i := 17) rfl))) (by decide) (t := (.array (.array .int))) (t' := (.object "com/example/hueline/hueline/model/Pages")) (by decide) (by decide)))).ext E7)
  have F12 : Exa Z h7 a1 "com/example/hueline/hueline/model/BigIntArray" := (F10.ext E7)
  obtain ⟨T13, h13, X13, e13, W13, st13⟩ := putF X7 hx hZ hown (host := "") (Or.inl (hw _ (List.mem_of_getElem? (i := 30) rfl))) Via.refl e7 F11 F12 (Or.inl (hw _ (List.mem_of_getElem? (i := 31) rfl))) (hw _ (List.mem_of_getElem? (i := 2) rfl)) (ty := (.array (.array .int))) (by decide) rfl rfl (g := (mkF m 18 #[.val (.ref a1), .val (.long q1), .second, .val (.ref w1), .unset] [(.ref b7), (.ref a1)])) rfl rfl (hb hby d2_18)
  refine own_go st13 ?_
  have G13 : Fld Z h13 a1 "com/example/hueline/hueline/model/BigIntArray" "pages" "[[I" (.ref b7) := F11.same W13
  have N13 := Fr.snoc X13 N5 H6
  refine own_go (fun t k => XS.aloadN X13.here hx rfl (hb hby d2_21) rfl rfl  k) ?_
  refine own_go (fun t k => XS.lloadN X13.here hx rfl (hb hby d2_22) rfl  k) ?_
  have F14 : Fld Z h13 a1 "com/example/hueline/hueline/model/BigIntArray" "length" "J" (.long (0 : Int64)) := (((H4.other W2 (Or.inr (slot_ne (Or.inl (hw _ (List.mem_of_getElem? (i := 33) rfl))) (Or.inr (hw _ (List.mem_of_getElem? (i := 17) rfl))) (by decide) (t := .long) (t' := (.object "com/example/hueline/hueline/model/Pages")) (by decide) (by decide)))).ext E7).other W13 (Or.inr (slot_ne (Or.inl (hw _ (List.mem_of_getElem? (i := 33) rfl))) (Or.inl (hw _ (List.mem_of_getElem? (i := 31) rfl))) (by decide) (t := .long) (t' := (.array (.array .int))) (by decide) (by decide))))
  have F15 : Exa Z h13 a1 "com/example/hueline/hueline/model/BigIntArray" := (F12.wr W13)
  obtain ⟨T16, h16, X16, e16, W16, st16⟩ := putF X13 hx hZ hown (host := "") (Or.inl (hw _ (List.mem_of_getElem? (i := 32) rfl))) Via.refl e13 F14 F15 (Or.inl (hw _ (List.mem_of_getElem? (i := 33) rfl))) (hw _ (List.mem_of_getElem? (i := 2) rfl)) (ty := .long) (by decide) rfl rfl (g := (mkF m 23 #[.val (.ref a1), .val (.long q1), .second, .val (.ref w1), .unset] [(.long q1), (.ref a1)])) rfl rfl (hb hby d2_23)
  refine own_go st16 ?_
  have G16 : Fld Z h16 a1 "com/example/hueline/hueline/model/BigIntArray" "length" "J" (.long q1) := F14.same W16
  have N16 := Fr.snoc X16 N13 H6
  refine own_go (fun t k => XS.iconst X16.here hx rfl (hb hby d2_26) k) ?_
  show own_Run p e below Φ (T16.setTop (mkF m 27 #[.val (.ref a1), .val (.long q1), .second, .val (.ref w1), .unset] [(.int (0 : Int32))]))
  refine own_go (fun t k => XS.istore X16.here hx rfl (hb hby d2_27) rfl (l' := #[.val (.ref a1), .val (.long q1), .second, .val (.ref w1), .val (.int (0 : Int32))]) rfl k) ?_
  refine own_go (fun t k => XS.iload X16.here hx rfl (hb hby d2_29) rfl  k) ?_
  refine own_go (fun t k => XS.aloadN X16.here hx rfl (hb hby d2_31) rfl rfl  k) ?_
  have F17 : Fld Z h16 a1 "com/example/hueline/hueline/model/BigIntArray" "pages" "[[I" (.ref b7) := (G13.other W16 (Or.inr (slot_ne (Or.inl (hw _ (List.mem_of_getElem? (i := 31) rfl))) (Or.inl (hw _ (List.mem_of_getElem? (i := 33) rfl))) (by decide) (t := (.array (.array .int))) (t' := .long) (by decide) (by decide))))
  obtain ⟨T18, X18, e18, st18⟩ := getF X16 hx hZ hown (host := "") (Or.inl (hw _ (List.mem_of_getElem? (i := 30) rfl))) Via.refl e16 F17 (g := (mkF m 32 #[.val (.ref a1), .val (.long q1), .second, .val (.ref w1), .val (.int (0 : Int32))] [(.ref a1), (.int (0 : Int32))])) rfl rfl (hb hby d2_32)
  refine own_go st18 ?_
  have F19 : Arv Z h16 b7 k7 (.array .int) (2 : Int32) [.null, .null] .null := ((V7.other W13 (Ne.symm ne_a1_b7)).other W16 (Ne.symm ne_a1_b7))
  refine own_arrlen X18 hx hZ e18 F19 (g := (mkF m 35 #[.val (.ref a1), .val (.long q1), .second, .val (.ref w1), .val (.int (0 : Int32))] [(.ref b7), (.int (0 : Int32))])) rfl rfl (hb hby d2_35) ?_
  show own_Run p e below Φ (T18.setTop (mkF m 36 #[.val (.ref a1), .val (.long q1), .second, .val (.ref w1), .val (.int (0 : Int32))] [(.int (2 : Int32)), (.int (0 : Int32))]))
  refine own_go (fun t k => XS.icmpNo X18.here hx rfl (hb hby d2_36) rfl (tlt (by decide : (0 : Int32) < (2 : Int32))).2.1 k) ?_
  refine own_go (fun t k => XS.aloadN X18.here hx rfl (hb hby d2_39) rfl rfl  k) ?_
  obtain ⟨T20, X20, e20, st20⟩ := getF X18 hx hZ hown (host := "") (Or.inl (hw _ (List.mem_of_getElem? (i := 30) rfl))) Via.refl e18 F17 (g := (mkF m 40 #[.val (.ref a1), .val (.long q1), .second, .val (.ref w1), .val (.int (0 : Int32))] [(.ref a1)])) rfl rfl (hb hby d2_40)
  refine own_go st20 ?_
  refine own_go (fun t k => XS.iload X20.here hx rfl (hb hby d2_43) rfl  k) ?_
  refine own_go (fun t k => XS.aloadN X20.here hx rfl (hb hby d2_45) rfl rfl  k) ?_
  show own_Run p e below Φ (T20.setTop (mkF m 46 #[.val (.ref a1), .val (.long q1), .second, .val (.ref w1), .val (.int (0 : Int32))] [(.ref w1), (.int (0 : Int32)), (.ref b7)]))
  refine own_go (fun t k => XS.lloadN X20.here hx rfl (hb hby d2_46) rfl  k) ?_
  refine own_go (fun t k => XS.iload X20.here hx rfl (hb hby d2_47) rfl  k) ?_
  have F21 : Fld Z h16 w1 "com/example/hueline/hueline/model/Pages" "length" "I" (.int (4 : Int32)) := ((((H11.other W2 (Or.inl H12)).ext E7).other W13 (Or.inl H12)).other W16 (Or.inl H12))
  have F22 : Fld Z h16 w1 "com/example/hueline/hueline/model/Pages" "shift" "I" (.int (2 : Int32)) := (((F4.ext E7).other W13 (Or.inl H12)).other W16 (Or.inl H12))
  have F24 : Exa Z h16 w1 "com/example/hueline/hueline/model/Pages" := (((F6.ext E7).wr W13).wr W16)
  refine own_callV X20 hx hZ (y := (⟨"com/example/hueline/hueline/model/Pages", "length", "(JI)I"⟩ : MethodName)) (z := (⟨"com/example/hueline/hueline/model/Pages", "length", "(JI)I"⟩ : MethodName)) (W := 2) (a := w1) (argsL := [(.long q1), (.int (0 : Int32))]) (rest := [(.int (0 : Int32)), (.ref b7)]) hown (hw _ (List.mem_of_getElem? (i := 34) rfl)) (hw _ (List.mem_of_getElem? (i := 35) rfl)) (notFace_of_selects (args := #[]) (mvT hZ (hw _ (List.mem_of_getElem? (i := 37) rfl)))) (hw _ (List.mem_of_getElem? (i := 37) rfl)) (hw _ (List.mem_of_getElem? (i := 36) rfl)) (by decide) (own_bk (rm_len l Z a0 hw w1 q1 (0 : Int32) (4 : Int32) (2 : Int32) (4 : Int32) h16 n0 F21 F22 (own_ln 0 (by decide) 4 (by decide) (by omega) (by omega) (by omega) (by omega) (by first | exact Or.inl ⟨by omega, by decide⟩ | exact Or.inr ⟨by omega, by omega⟩))) hZ (hw _ (List.mem_of_getElem? (i := 38) rfl)) (hw _ (List.mem_of_getElem? (i := 8) rfl)) (by decide) (by decide)) e20 F24 (g := (mkF m 49 #[.val (.ref a1), .val (.long q1), .second, .val (.ref w1), .val (.int (0 : Int32))] [(.int (0 : Int32)), (.long q1), (.ref w1), (.int (0 : Int32)), (.ref b7)])) rfl (by rw [hml]; rfl) (lenOf pd_4 rfl) rfl (by show 2 * 0 + _ ≤ _; exact Nat.le_of_eq rfl) (hb hby d2_49) (by decide) (by decide) (fun v23 T23 h23 L23 X23 e23 q23 => ?_)
  obtain ⟨rfl, M23, s23⟩ := q23
  replace e23 : T23.heap = h16 := e23.trans s23
  have N23 := Fr.app N16 M23
  have F26 : n0 ≤ h16.size := (Nat.le_trans (Nat.le_trans (Nat.le_trans F8 E7.1) (Keep.of_wr W13).1) (Keep.of_wr W16).1)
  have F27 : Keep h0 h16 [a1] := (((F9.ext E7).wr W13 (Or.inl (List.mem_of_getElem? (i := 0) rfl))).wr W16 (Or.inl (List.mem_of_getElem? (i := 0) rfl)))
  have F28 : Exa Z h16 a1 "com/example/hueline/hueline/model/BigIntArray" := (F15.wr W16)
  refine own_newPE X23 hx hZ (hw _ (List.mem_of_getElem? (i := 45) rfl)) e23 (g := (mkF m 52 #[.val (.ref a1), .val (.long q1), .second, .val (.ref w1), .val (.int (0 : Int32))] [(.int (4 : Int32)), (.int (0 : Int32)), (.ref b7)])) rfl (hb hby d2_52) rfl (by decide) 4 (by decide) (by decide) (by decide) (by decide) 4 "[I" rfl (fun T25 h25 k25 b25 X25 e25 E25 g25 V25 Y25 => ?_)
  have ne_a1_b25 : a1 ≠ b25 := Nat.ne_of_lt (Nat.lt_of_lt_of_le F28.lt (Nat.le_of_eq g25.symm))
  have ne_w1_b25 : w1 ≠ b25 := Nat.ne_of_lt (Nat.lt_of_lt_of_le F24.lt (Nat.le_of_eq g25.symm))
  have ne_b7_b25 : b7 ≠ b25 := Nat.ne_of_lt (Nat.lt_of_lt_of_le F19.lt (Nat.le_of_eq g25.symm))
  replace V25 : Arv Z h25 b25 k25 .int (4 : Int32) [(.int (0 : Int32)), (.int (0 : Int32)), (.int (0 : Int32)), (.int (0 : Int32))] (.int (0 : Int32)) := V25
  have F30 : Arv Z h25 b7 k7 (.array .int) (2 : Int32) [.null, .null] .null := (F19.ext E25)
  refine own_aastore X25 hx hZ e25 F30 O7 Y25 (hw _ (List.mem_of_getElem? (i := 46) rfl)) (j := (0 : Int32)) ⟨by decide, by decide⟩ 0 rfl (Nat.le_of_ble_eq_true rfl) (g := (mkF m 54 #[.val (.ref a1), .val (.long q1), .second, .val (.ref w1), .val (.int (0 : Int32))] [(.ref b25), (.int (0 : Int32)), (.ref b7)])) rfl rfl (hb hby d2_54) (fun T31 h31 X31 e31 W31 V31 => ?_)
  replace V31 : Arv Z h31 b7 k7 (.array .int) (2 : Int32) [(.ref b25), .null] .null := V31
  have N31 := Fr.snoc X31 N23 (Nat.le_trans F8 (Nat.le_of_eq g7.symm))
  show own_Run p e below Φ (T31.setTop (mkF m 55 #[.val (.ref a1), .val (.long q1), .second, .val (.ref w1), .val (.int (0 : Int32))] []))
  refine own_go (fun t k => XS.iinc X31.here hx rfl (hb hby d2_55) rfl (l' := #[.val (.ref a1), .val (.long q1), .second, .val (.ref w1), .val (.int ((0 : Int32) + (1 : Int32)))]) rfl k) ?_
  show own_Run p e below Φ (T31.setTop (mkF m 58 #[.val (.ref a1), .val (.long q1), .second, .val (.ref w1), .val (.int ((0 : Int32) + (1 : Int32)))] []))
  rw [show ((0 : Int32) + (1 : Int32)) = (1 : Int32) from by decide]
  show own_Run p e below Φ (T31.setTop (mkF m 58 #[.val (.ref a1), .val (.long q1), .second, .val (.ref w1), .val (.int (1 : Int32))] []))
  refine own_go (fun t k => XS.goto X31.here hx rfl (pc0 := 58) (pc' := 29) rfl (hb hby d2_58) (by decide) (by decide) k) ?_
  refine own_go (fun t k => XS.iload X31.here hx rfl (hb hby d2_29) rfl  k) ?_
  refine own_go (fun t k => XS.aloadN X31.here hx rfl (hb hby d2_31) rfl rfl  k) ?_
  have F32 : Fld Z h31 a1 "com/example/hueline/hueline/model/BigIntArray" "pages" "[[I" (.ref b7) := ((F17.ext E25).other W31 (Or.inl ne_a1_b7))
  obtain ⟨T33, X33, e33, st33⟩ := getF X31 hx hZ hown (host := "") (Or.inl (hw _ (List.mem_of_getElem? (i := 30) rfl))) Via.refl e31 F32 (g := (mkF m 32 #[.val (.ref a1), .val (.long q1), .second, .val (.ref w1), .val (.int (1 : Int32))] [(.ref a1), (.int (1 : Int32))])) rfl rfl (hb hby d2_32)
  refine own_go st33 ?_
  refine own_arrlen X33 hx hZ e33 V31 (g := (mkF m 35 #[.val (.ref a1), .val (.long q1), .second, .val (.ref w1), .val (.int (1 : Int32))] [(.ref b7), (.int (1 : Int32))])) rfl rfl (hb hby d2_35) ?_
  show own_Run p e below Φ (T33.setTop (mkF m 36 #[.val (.ref a1), .val (.long q1), .second, .val (.ref w1), .val (.int (1 : Int32))] [(.int (2 : Int32)), (.int (1 : Int32))]))
  refine own_go (fun t k => XS.icmpNo X33.here hx rfl (hb hby d2_36) rfl (tlt (by decide : (1 : Int32) < (2 : Int32))).2.1 k) ?_
  refine own_go (fun t k => XS.aloadN X33.here hx rfl (hb hby d2_39) rfl rfl  k) ?_
  obtain ⟨T34, X34, e34, st34⟩ := getF X33 hx hZ hown (host := "") (Or.inl (hw _ (List.mem_of_getElem? (i := 30) rfl))) Via.refl e33 F32 (g := (mkF m 40 #[.val (.ref a1), .val (.long q1), .second, .val (.ref w1), .val (.int (1 : Int32))] [(.ref a1)])) rfl rfl (hb hby d2_40)
  refine own_go st34 ?_
  refine own_go (fun t k => XS.iload X34.here hx rfl (hb hby d2_43) rfl  k) ?_
  refine own_go (fun t k => XS.aloadN X34.here hx rfl (hb hby d2_45) rfl rfl  k) ?_
  show own_Run p e below Φ (T34.setTop (mkF m 46 #[.val (.ref a1), .val (.long q1), .second, .val (.ref w1), .val (.int (1 : Int32))] [(.ref w1), (.int (1 : Int32)), (.ref b7)]))
  refine own_go (fun t k => XS.lloadN X34.here hx rfl (hb hby d2_46) rfl  k) ?_
  refine own_go (fun t k => XS.iload X34.here hx rfl (hb hby d2_47) rfl  k) ?_
  have F35 : Fld Z h31 w1 "com/example/hueline/hueline/model/Pages" "length" "I" (.int (4 : Int32)) := ((F21.ext E25).other W31 (Or.inl ne_w1_b7))
  have F36 : Fld Z h31 w1 "com/example/hueline/hueline/model/Pages" "shift" "I" (.int (2 : Int32)) := ((F22.ext E25).other W31 (Or.inl ne_w1_b7))
  have F38 : Exa Z h31 w1 "com/example/hueline/hueline/model/Pages" := ((F24.ext E25).wr W31)
  refine own_callV X34 hx hZ (y := (⟨"com/example/hueline/hueline/model/Pages", "length", "(JI)I"⟩ : MethodName)) (z := (⟨"com/example/hueline/hueline/model/Pages", "length", "(JI)I"⟩ : MethodName)) (W := 2) (a := w1) (argsL := [(.long q1), (.int (1 : Int32))]) (rest := [(.int (1 : Int32)), (.ref b7)]) hown (hw _ (List.mem_of_getElem? (i := 34) rfl)) (hw _ (List.mem_of_getElem? (i := 35) rfl)) (notFace_of_selects (args := #[]) (mvT hZ (hw _ (List.mem_of_getElem? (i := 37) rfl)))) (hw _ (List.mem_of_getElem? (i := 37) rfl)) (hw _ (List.mem_of_getElem? (i := 36) rfl)) (by decide) (own_bk (rm_len l Z a0 hw w1 q1 (1 : Int32) (4 : Int32) (2 : Int32) zl h31 n0 F35 F36 (own_ln 4 (by decide) 4 (by decide) (by omega) (by omega) (by omega) (by omega) (by first | exact Or.inl ⟨by omega, by decide⟩ | exact Or.inr ⟨by omega, by omega⟩))) hZ (hw _ (List.mem_of_getElem? (i := 38) rfl)) (hw _ (List.mem_of_getElem? (i := 8) rfl)) (by decide) (by decide)) e34 F38 (g := (mkF m 49 #[.val (.ref a1), .val (.long q1), .second, .val (.ref w1), .val (.int (1 : Int32))] [(.int (1 : Int32)), (.long q1), (.ref w1), (.int (1 : Int32)), (.ref b7)])) rfl (by rw [hml]; rfl) (lenOf pd_4 rfl) rfl (by show 2 * 0 + _ ≤ _; exact Nat.le_of_eq rfl) (hb hby d2_49) (by decide) (by decide) (fun v37 T37 h37 L37 X37 e37 q37 => ?_)
  obtain ⟨rfl, M37, s37⟩ := q37
  replace e37 : T37.heap = h31 := e37.trans s37
  have N37 := Fr.app N31 M37
  have F40 : n0 ≤ h31.size := (Nat.le_trans (Nat.le_trans F26 E25.1) (Keep.of_wr W31).1)
  have F41 : Keep h0 h31 [a1] := ((F27.ext E25).wr W31 (Or.inr (Nat.le_trans F9.1 (Nat.le_of_eq g7.symm))))
  have F42 : Exa Z h31 a1 "com/example/hueline/hueline/model/BigIntArray" := ((F28.ext E25).wr W31)
  have F43 : Arv Z h31 b25 k25 .int (4 : Int32) [(.int (0 : Int32)), (.int (0 : Int32)), (.int (0 : Int32)), (.int (0 : Int32))] (.int (0 : Int32)) := (V25.other W31 (Ne.symm ne_b7_b25))
  refine own_newPE X37 hx hZ (hw _ (List.mem_of_getElem? (i := 45) rfl)) e37 (g := (mkF m 52 #[.val (.ref a1), .val (.long q1), .second, .val (.ref w1), .val (.int (1 : Int32))] [(.int zl), (.int (1 : Int32)), (.ref b7)])) rfl (hb hby d2_52) rfl (fun q => by rw [Int32.lt_iff_toInt_lt] at q; simp only [Int32.reduceToInt] at q; omega) 4 (by show zl.toInt.toNat ≤ 4; omega) (by decide) (by decide) (by decide) 4 "[I" rfl (fun T39 h39 k39 b39 X39 e39 E39 g39 V39 Y39 => ?_)
  have ne_a1_b39 : a1 ≠ b39 := Nat.ne_of_lt (Nat.lt_of_lt_of_le F42.lt (Nat.le_of_eq g39.symm))
  have ne_w1_b39 : w1 ≠ b39 := Nat.ne_of_lt (Nat.lt_of_lt_of_le F38.lt (Nat.le_of_eq g39.symm))
  have ne_b7_b39 : b7 ≠ b39 := Nat.ne_of_lt (Nat.lt_of_lt_of_le V31.lt (Nat.le_of_eq g39.symm))
  have ne_b25_b39 : b25 ≠ b39 := Nat.ne_of_lt (Nat.lt_of_lt_of_le F43.lt (Nat.le_of_eq g39.symm))
  replace V39 : Arv Z h39 b39 k39 .int zl [(.int (0 : Int32)), (.int (0 : Int32)), (.int (0 : Int32)), (.int (0 : Int32))] (.int (0 : Int32)) := V39
  have F45 : Arv Z h39 b7 k7 (.array .int) (2 : Int32) [(.ref b25), .null] .null := (V31.ext E39)
  refine own_aastore X39 hx hZ e39 F45 O7 Y39 (hw _ (List.mem_of_getElem? (i := 46) rfl)) (j := (1 : Int32)) ⟨by decide, by decide⟩ 1 rfl (Nat.le_of_ble_eq_true rfl) (g := (mkF m 54 #[.val (.ref a1), .val (.long q1), .second, .val (.ref w1), .val (.int (1 : Int32))] [(.ref b39), (.int (1 : Int32)), (.ref b7)])) rfl rfl (hb hby d2_54) (fun T46 h46 X46 e46 W46 V46 => ?_)
  replace V46 : Arv Z h46 b7 k7 (.array .int) (2 : Int32) [(.ref b25), (.ref b39)] .null := V46
  have N46 := Fr.snoc X46 N37 (Nat.le_trans F8 (Nat.le_of_eq g7.symm))
  show own_Run p e below Φ (T46.setTop (mkF m 55 #[.val (.ref a1), .val (.long q1), .second, .val (.ref w1), .val (.int (1 : Int32))] []))
  refine own_go (fun t k => XS.iinc X46.here hx rfl (hb hby d2_55) rfl (l' := #[.val (.ref a1), .val (.long q1), .second, .val (.ref w1), .val (.int ((1 : Int32) + (1 : Int32)))]) rfl k) ?_
  show own_Run p e below Φ (T46.setTop (mkF m 58 #[.val (.ref a1), .val (.long q1), .second, .val (.ref w1), .val (.int ((1 : Int32) + (1 : Int32)))] []))
  rw [show ((1 : Int32) + (1 : Int32)) = (2 : Int32) from by decide]
  show own_Run p e below Φ (T46.setTop (mkF m 58 #[.val (.ref a1), .val (.long q1), .second, .val (.ref w1), .val (.int (2 : Int32))] []))
  refine own_go (fun t k => XS.goto X46.here hx rfl (pc0 := 58) (pc' := 29) rfl (hb hby d2_58) (by decide) (by decide) k) ?_
  refine own_go (fun t k => XS.iload X46.here hx rfl (hb hby d2_29) rfl  k) ?_
  refine own_go (fun t k => XS.aloadN X46.here hx rfl (hb hby d2_31) rfl rfl  k) ?_
  have F47 : Fld Z h46 a1 "com/example/hueline/hueline/model/BigIntArray" "pages" "[[I" (.ref b7) := ((F32.ext E39).other W46 (Or.inl ne_a1_b7))
  obtain ⟨T48, X48, e48, st48⟩ := getF X46 hx hZ hown (host := "") (Or.inl (hw _ (List.mem_of_getElem? (i := 30) rfl))) Via.refl e46 F47 (g := (mkF m 32 #[.val (.ref a1), .val (.long q1), .second, .val (.ref w1), .val (.int (2 : Int32))] [(.ref a1), (.int (2 : Int32))])) rfl rfl (hb hby d2_32)
  refine own_go st48 ?_
  refine own_arrlen X48 hx hZ e48 V46 (g := (mkF m 35 #[.val (.ref a1), .val (.long q1), .second, .val (.ref w1), .val (.int (2 : Int32))] [(.ref b7), (.int (2 : Int32))])) rfl rfl (hb hby d2_35) ?_
  show own_Run p e below Φ (T48.setTop (mkF m 36 #[.val (.ref a1), .val (.long q1), .second, .val (.ref w1), .val (.int (2 : Int32))] [(.int (2 : Int32)), (.int (2 : Int32))]))
  refine own_go (fun t k => XS.icmpYes X48.here hx rfl (pc0 := 36) (pc' := 61) rfl (hb hby d2_36) rfl (flt (by decide : ¬ ((2 : Int32) < (2 : Int32)))).2.1 (by decide) (by decide) k) ?_
  refine own_go (fun t k => XS.aloadN X48.here hx rfl (hb hby d2_61) rfl rfl  k) ?_
  refine own_go (fun t k => XS.aloadN X48.here hx rfl (hb hby d2_62) rfl rfl  k) ?_
  obtain ⟨T49, X49, e49, st49⟩ := getF X48 hx hZ hown (host := "") (Or.inl (hw _ (List.mem_of_getElem? (i := 30) rfl))) Via.refl e48 F47 (g := (mkF m 63 #[.val (.ref a1), .val (.long q1), .second, .val (.ref w1), .val (.int (2 : Int32))] [(.ref a1), (.ref a1)])) rfl rfl (hb hby d2_63)
  refine own_go st49 ?_
  refine own_arrlen X49 hx hZ e49 V46 (g := (mkF m 66 #[.val (.ref a1), .val (.long q1), .second, .val (.ref w1), .val (.int (2 : Int32))] [(.ref b7), (.ref a1)])) rfl rfl (hb hby d2_66) ?_
  show own_Run p e below Φ (T49.setTop (mkF m 67 #[.val (.ref a1), .val (.long q1), .second, .val (.ref w1), .val (.int (2 : Int32))] [(.int (2 : Int32)), (.ref a1)]))
  refine own_go (fun t k => XS.iconst X49.here hx rfl (hb hby d2_67) k) ?_
  refine own_go (fun t k => XS.icmpYes X49.here hx rfl (pc0 := 68) (pc' := 80) rfl (hb hby d2_68) rfl (feq (by decide : ¬ ((2 : Int32) = (1 : Int32)))).2 (by decide) (by decide) k) ?_
  refine own_go (fun t k => XS.aconstNull X49.here hx rfl (hb hby d2_80) k) ?_
  have F50 : Fld Z h46 a1 "com/example/hueline/hueline/model/BigIntArray" "flat" "[I" .null := ((((((((H5.other W2 (Or.inr (slot_ne (Or.inl (hw _ (List.mem_of_getElem? (i := 48) rfl))) (Or.inr (hw _ (List.mem_of_getElem? (i := 17) rfl))) (by decide) (t := (.array .int)) (t' := (.object "com/example/hueline/hueline/model/Pages")) (by decide) (by decide)))).ext E7).other W13 (Or.inr (slot_ne (Or.inl (hw _ (List.mem_of_getElem? (i := 48) rfl))) (Or.inl (hw _ (List.mem_of_getElem? (i := 31) rfl))) (by decide) (t := (.array .int)) (t' := (.array (.array .int))) (by decide) (by decide)))).other W16 (Or.inr (slot_ne (Or.inl (hw _ (List.mem_of_getElem? (i := 48) rfl))) (Or.inl (hw _ (List.mem_of_getElem? (i := 33) rfl))) (by decide) (t := (.array .int)) (t' := .long) (by decide) (by decide)))).ext E25).other W31 (Or.inl ne_a1_b7)).ext E39).other W46 (Or.inl ne_a1_b7))
  have F51 : Exa Z h46 a1 "com/example/hueline/hueline/model/BigIntArray" := ((F42.ext E39).wr W46)
  obtain ⟨T52, h52, X52, e52, W52, st52⟩ := putF X49 hx hZ hown (host := "") (Or.inl (hw _ (List.mem_of_getElem? (i := 47) rfl))) Via.refl e49 F50 F51 (Or.inl (hw _ (List.mem_of_getElem? (i := 48) rfl))) (hw _ (List.mem_of_getElem? (i := 2) rfl)) (ty := (.array .int)) (by decide) rfl rfl (g := (mkF m 81 #[.val (.ref a1), .val (.long q1), .second, .val (.ref w1), .val (.int (2 : Int32))] [.null, (.ref a1)])) rfl rfl (hb hby d2_81)
  refine own_go st52 ?_
  have G52 : Fld Z h52 a1 "com/example/hueline/hueline/model/BigIntArray" "flat" "[I" .null := F50.same W52
  have N52 := Fr.snoc X52 N46 H6
  have F53 : Keep h0 h52 [a1] := (((F41.ext E39).wr W46 (Or.inr (Nat.le_trans F9.1 (Nat.le_of_eq g7.symm)))).wr W52 (Or.inl (List.mem_of_getElem? (i := 0) rfl)))
  have F54 : Fld Z h52 a1 "com/example/hueline/hueline/model/BigIntArray" "layout" "Lcom/example/hueline/hueline/model/Pages;" (.ref w1) := ((((((((G2.ext E7).other W13 (Or.inr (slot_ne (Or.inr (hw _ (List.mem_of_getElem? (i := 17) rfl))) (Or.inl (hw _ (List.mem_of_getElem? (i := 31) rfl))) (by decide) (t := (.object "com/example/hueline/hueline/model/Pages")) (t' := (.array (.array .int))) (by decide) (by decide)))).other W16 (Or.inr (slot_ne (Or.inr (hw _ (List.mem_of_getElem? (i := 17) rfl))) (Or.inl (hw _ (List.mem_of_getElem? (i := 33) rfl))) (by decide) (t := (.object "com/example/hueline/hueline/model/Pages")) (t' := .long) (by decide) (by decide)))).ext E25).other W31 (Or.inl ne_a1_b7)).ext E39).other W46 (Or.inl ne_a1_b7)).other W52 (Or.inr (slot_ne (Or.inr (hw _ (List.mem_of_getElem? (i := 17) rfl))) (Or.inl (hw _ (List.mem_of_getElem? (i := 48) rfl))) (by decide) (t := (.object "com/example/hueline/hueline/model/Pages")) (t' := (.array .int)) (by decide) (by decide))))
  have F55 : Fld Z h52 a1 "com/example/hueline/hueline/model/BigIntArray" "length" "J" (.long q1) := (((((G16.ext E25).other W31 (Or.inl ne_a1_b7)).ext E39).other W46 (Or.inl ne_a1_b7)).other W52 (Or.inr (slot_ne (Or.inl (hw _ (List.mem_of_getElem? (i := 33) rfl))) (Or.inl (hw _ (List.mem_of_getElem? (i := 48) rfl))) (by decide) (t := .long) (t' := (.array .int)) (by decide) (by decide))))
  have F56 : Fld Z h52 a1 "com/example/hueline/hueline/model/BigIntArray" "pages" "[[I" (.ref b7) := (F47.other W52 (Or.inr (slot_ne (Or.inl (hw _ (List.mem_of_getElem? (i := 31) rfl))) (Or.inl (hw _ (List.mem_of_getElem? (i := 48) rfl))) (by decide) (t := (.array (.array .int))) (t' := (.array .int)) (by decide) (by decide))))
  have F57 : Arv Z h52 b7 k7 (.array .int) (2 : Int32) [(.ref b25), (.ref b39)] .null := (V46.other W52 (Ne.symm ne_a1_b7))
  have F58 : Arv Z h52 b25 k25 .int (4 : Int32) [(.int (0 : Int32)), (.int (0 : Int32)), (.int (0 : Int32)), (.int (0 : Int32))] (.int (0 : Int32)) := (((F43.ext E39).other W46 (Ne.symm ne_b7_b25)).other W52 (Ne.symm ne_a1_b25))
  have F59 : Arv Z h52 b39 k39 .int zl [(.int (0 : Int32)), (.int (0 : Int32)), (.int (0 : Int32)), (.int (0 : Int32))] (.int (0 : Int32)) := ((V39.other W46 (Ne.symm ne_b7_b39)).other W52 (Ne.symm ne_a1_b39))
  subst hΦ
  exact own_retV X52 hx Bd.returns hlk (hb hby d2_84) e52 ⟨rfl, N52, F53, F54, F55, G52, ⟨_, _, _, _, _, _, (Nat.le_trans F8 (Nat.le_of_eq g7.symm)), (Nat.le_trans F9.1 (Nat.le_of_eq g7.symm)), (Nat.le_trans F26 (Nat.le_of_eq g25.symm)), (Nat.le_trans F27.1 (Nat.le_of_eq g25.symm)), (Nat.le_trans F40 (Nat.le_of_eq g39.symm)), (Nat.le_trans F41.1 (Nat.le_of_eq g39.symm)), ne_b7_b25, ne_b7_b39, ne_b25_b39, F56, F57, F58, F59⟩⟩ (by decide) (by decide)
set_option maxRecDepth 65536 in
set_option maxHeartbeats 40000000 in
theorem rm_ct3 (l : Launch) (Z : State) (a0 : Array Value) (hw : ∀ d ∈ tables_1, d.before a0 Z = true) (a1 : Addr) (q1 : Int64) (w1 : Addr) (zl : Int32) (h0 : Heap) (n0 : Nat) (H1 : Exa Z h0 a1 "com/example/hueline/hueline/model/BigIntArray") (H2 : Fld Z h0 a1 "com/example/hueline/hueline/model/BigIntArray" "layout" "Lcom/example/hueline/hueline/model/Pages;" .null) (H3 : Fld Z h0 a1 "com/example/hueline/hueline/model/BigIntArray" "pages" "[[I" .null) (H4 : Fld Z h0 a1 "com/example/hueline/hueline/model/BigIntArray" "length" "J" (.long (0 : Int64))) (H5 : Fld Z h0 a1 "com/example/hueline/hueline/model/BigIntArray" "flat" "[I" .null) (H6 : n0 ≤ a1) (H7 : n0 ≤ h0.size) (H8 : Exa Z h0 w1 "com/example/hueline/hueline/model/Pages") (H9 : Fld Z h0 w1 "com/example/hueline/hueline/model/Pages" "mask" "I" (.int (3 : Int32))) (H10 : Fld Z h0 w1 "com/example/hueline/hueline/model/Pages" "shift" "I" (.int (2 : Int32))) (H11 : Fld Z h0 w1 "com/example/hueline/hueline/model/Pages" "length" "I" (.int (4 : Int32))) (H12 : w1 ≠ a1) (hz : 1 ≤ zl.toInt ∧ zl.toInt ≤ 4) (hn : q1.toInt = 8 + zl.toInt) :
    own_Met l Z (⟨"com/example/hueline/hueline/model/BigIntArray", "<init>", "(JLcom/example/hueline/hueline/model/Pages;)V"⟩ : MethodName) prog_36_method_2_code 5 none ({ frames := 2, cells := 4, slots := 15, locals := 32 } : Room) #[(.ref a1), (.long q1), (.ref w1)] h0 (fun v h L => v = none ∧ Fr n0 L ∧ Keep h0 h [a1] ∧ Fld Z h a1 "com/example/hueline/hueline/model/BigIntArray" "layout" "Lcom/example/hueline/hueline/model/Pages;" (.ref w1) ∧ Fld Z h a1 "com/example/hueline/hueline/model/BigIntArray" "length" "J" (.long q1) ∧ Fld Z h a1 "com/example/hueline/hueline/model/BigIntArray" "flat" "[I" .null ∧ ∃ (x9 : Addr) (k9 : ClassId) (x0 : Addr) (k0 : ClassId) (x1 : Addr) (k1 : ClassId) (x2 : Addr) (k2 : ClassId), n0 ≤ x9 ∧ h0.size ≤ x9 ∧ n0 ≤ x0 ∧ h0.size ≤ x0 ∧ n0 ≤ x1 ∧ h0.size ≤ x1 ∧ n0 ≤ x2 ∧ h0.size ≤ x2 ∧ x9 ≠ x0 ∧ x9 ≠ x1 ∧ x9 ≠ x2 ∧ x0 ≠ x1 ∧ x0 ≠ x2 ∧ x1 ≠ x2 ∧ Fld Z h a1 "com/example/hueline/hueline/model/BigIntArray" "pages" "[[I" (.ref x9) ∧ Arv Z h x9 k9 (.array .int) (3 : Int32) [(.ref x0), (.ref x1), (.ref x2)] .null ∧ Arv Z h x0 k0 .int (4 : Int32) (own_p0 own_z) (.int (0 : Int32)) ∧ Arv Z h x1 k1 .int (4 : Int32) (own_p1 own_z) (.int (0 : Int32)) ∧ Arv Z h x2 k2 .int zl (own_p2 own_z) (.int (0 : Int32))) := by
  intro ws
  refine MetFree.of_bodySF (plainFor_of_name pn_c1) hisR ?_
  intro p e s m args below meth c s₁ Bd hml0 hP hK
  obtain ⟨rfl, hZ, hh⟩ := hP
  have hx := Bd.exec
  have hby := Bd.bytes
  have hml : c.maxLocals = 5 := hml0
  have hown : s.vm.findClass "com/example/hueline/hueline/model/BigIntArray" = some m.cls := findClass_of_methodNamed Bd.named
  have hnm := (name_of_methodNamed Bd.named Bd.method).1
  have hlk : meth.locks = false := Bd.notSynchronized
  have X0 : Stand p l e ({ frames := 2, cells := 4, slots := 15, locals := 32 } : Room) s m #[(.ref a1), (.long q1), (.ref w1)] below meth c s₁ [] 0 0 := Stand.of_body Bd
  have e0 : s₁.heap = h0 := by rw [← hh, Bd.state]; rfl
  have N0 := Fr.nil n0
  refine own_body (Q := fun v h L => v = none ∧ Fr n0 L ∧ Keep h0 h [a1] ∧ Fld Z h a1 "com/example/hueline/hueline/model/BigIntArray" "layout" "Lcom/example/hueline/hueline/model/Pages;" (.ref w1) ∧ Fld Z h a1 "com/example/hueline/hueline/model/BigIntArray" "length" "J" (.long q1) ∧ Fld Z h a1 "com/example/hueline/hueline/model/BigIntArray" "flat" "[I" .null ∧ ∃ (x9 : Addr) (k9 : ClassId) (x0 : Addr) (k0 : ClassId) (x1 : Addr) (k1 : ClassId) (x2 : Addr) (k2 : ClassId), n0 ≤ x9 ∧ h0.size ≤ x9 ∧ n0 ≤ x0 ∧ h0.size ≤ x0 ∧ n0 ≤ x1 ∧ h0.size ≤ x1 ∧ n0 ≤ x2 ∧ h0.size ≤ x2 ∧ x9 ≠ x0 ∧ x9 ≠ x1 ∧ x9 ≠ x2 ∧ x0 ≠ x1 ∧ x0 ≠ x2 ∧ x1 ≠ x2 ∧ Fld Z h a1 "com/example/hueline/hueline/model/BigIntArray" "pages" "[[I" (.ref x9) ∧ Arv Z h x9 k9 (.array .int) (3 : Int32) [(.ref x0), (.ref x1), (.ref x2)] .null ∧ Arv Z h x0 k0 .int (4 : Int32) (own_p0 own_z) (.int (0 : Int32)) ∧ Arv Z h x1 k1 .int (4 : Int32) (own_p1 own_z) (.int (0 : Int32)) ∧ Arv Z h x2 k2 .int zl (own_p2 own_z) (.int (0 : Int32))) ?_
  generalize hΦ : own_Fin s below _ _ _ = Φ
  refine own_cast (ef_2_RJR m a1 q1 w1) ?_
  have K0 := Keep.refl h0 [a1]
  show own_Run p e below Φ (s₁.setTop (mkF m 0 #[.val (.ref a1), .val (.long q1), .second, .val (.ref w1), .unset] []))
  refine own_go (fun t k => XS.aloadN X0.here hx rfl (hb hby d2_0) rfl rfl  k) ?_
  obtain ⟨T1, X1, e1, st1⟩ := initO X0 hx hZ hown (hw _ (List.mem_of_getElem? (i := 13) rfl)) (hw _ (List.mem_of_getElem? (i := 14) rfl)) (hw _ (List.mem_of_getElem? (i := 15) rfl)) e0 (g := (mkF m 1 #[.val (.ref a1), .val (.long q1), .second, .val (.ref w1), .unset] [(.ref a1)])) rfl (by rw [hml]; rfl) rfl (hb hby d2_1) (by decide) (W := 0) (by show 2 * 0 + _ ≤ _; exact Nat.le_of_eq rfl) (by decide)
  refine own_go st1 ?_
  refine own_go (fun t k => XS.aloadN X1.here hx rfl (hb hby d2_4) rfl rfl  k) ?_
  refine own_go (fun t k => XS.aloadN X1.here hx rfl (hb hby d2_5) rfl rfl  k) ?_
  obtain ⟨T2, h2, X2, e2, W2, st2⟩ := putF X1 hx hZ hown (host := "") (Or.inl (hw _ (List.mem_of_getElem? (i := 16) rfl))) Via.refl e1 H2 H1 (Or.inr ⟨(hw _ (List.mem_of_getElem? (i := 17) rfl)), rfl, hnm⟩) (hw _ (List.mem_of_getElem? (i := 2) rfl)) (ty := (.object "com/example/hueline/hueline/model/Pages")) (by decide) rfl rfl (g := (mkF m 6 #[.val (.ref a1), .val (.long q1), .second, .val (.ref w1), .unset] [(.ref w1), (.ref a1)])) rfl rfl (hb hby d2_6)
  refine own_go st2 ?_
  have G2 : Fld Z h2 a1 "com/example/hueline/hueline/model/BigIntArray" "layout" "Lcom/example/hueline/hueline/model/Pages;" (.ref w1) := H2.same W2
  have N2 := Fr.snoc X2 N0 H6
  show own_Run p e below Φ (T2.setTop (mkF m 9 #[.val (.ref a1), .val (.long q1), .second, .val (.ref w1), .unset] []))
  refine own_go (fun t k => XS.aloadN X2.here hx rfl (hb hby d2_9) rfl rfl  k) ?_
  refine own_go (fun t k => XS.aloadN X2.here hx rfl (hb hby d2_10) rfl rfl  k) ?_
  refine own_go (fun t k => XS.lloadN X2.here hx rfl (hb hby d2_11) rfl  k) ?_
  have F3 : Fld Z h2 w1 "com/example/hueline/hueline/model/Pages" "mask" "I" (.int (3 : Int32)) := (H9.other W2 (Or.inl H12))
  have F4 : Fld Z h2 w1 "com/example/hueline/hueline/model/Pages" "shift" "I" (.int (2 : Int32)) := (H10.other W2 (Or.inl H12))
  have F6 : Exa Z h2 w1 "com/example/hueline/hueline/model/Pages" := (H8.wr W2)
  refine own_callV X2 hx hZ (y := (⟨"com/example/hueline/hueline/model/Pages", "count", "(J)I"⟩ : MethodName)) (z := (⟨"com/example/hueline/hueline/model/Pages", "count", "(J)I"⟩ : MethodName)) (W := 1) (a := w1) (argsL := [(.long q1)]) (rest := [(.ref a1)]) hown (hw _ (List.mem_of_getElem? (i := 18) rfl)) (hw _ (List.mem_of_getElem? (i := 19) rfl)) (notFace_of_selects (args := #[]) (mvT hZ (hw _ (List.mem_of_getElem? (i := 21) rfl)))) (hw _ (List.mem_of_getElem? (i := 21) rfl)) (hw _ (List.mem_of_getElem? (i := 20) rfl)) (by decide) (own_bk (rm_cnt l Z a0 hw w1 q1 (3 : Int32) (2 : Int32) (3 : Int64) (3 : Int32) h2 n0 F3 F4 (by omega) (own_cn 3 (by decide) 2 (by decide) (by decide) ⟨by omega, by omega, by decide⟩ (by show _ = (3 : Int); omega)) (by decide) (by decide)) hZ (hw _ (List.mem_of_getElem? (i := 22) rfl)) (hw _ (List.mem_of_getElem? (i := 8) rfl)) (by decide) (by decide)) e2 F6 (g := (mkF m 12 #[.val (.ref a1), .val (.long q1), .second, .val (.ref w1), .unset] [(.long q1), (.ref w1), (.ref a1)])) rfl (by rw [hml]; rfl) (lenOf pd_3 rfl) rfl (by show 2 * 0 + _ ≤ _; exact Nat.le_of_eq rfl) (hb hby d2_12) (by decide) (by decide) (fun v5 T5 h5 L5 X5 e5 q5 => ?_)
  obtain ⟨rfl, M5, s5⟩ := q5
  replace e5 : T5.heap = h2 := e5.trans s5
  have N5 := Fr.app N2 M5
  have F8 : n0 ≤ h2.size := (Nat.le_trans H7 (Keep.of_wr W2).1)
  have F9 : Keep h0 h2 [a1] := (K0.wr W2 (Or.inl (List.mem_of_getElem? (i := 0) rfl)))
  have F10 : Exa Z h2 a1 "com/example/hueline/hueline/model/BigIntArray" := (H1.wr W2)
  refine own_newRA X5 hx hZ hown (ty := .int) rfl (hw _ (List.mem_of_getElem? (i := 28) rfl)) (hw _ (List.mem_of_getElem? (i := 29) rfl)) e5 (g := (mkF m 15 #[.val (.ref a1), .val (.long q1), .second, .val (.ref w1), .unset] [(.int (3 : Int32)), (.ref a1)])) rfl (hb hby d2_15) rfl (by decide) 3 (by decide) (by decide) (by decide) (by decide) 3 (fun T7 h7 k7 b7 X7 e7 E7 g7 V7 O7 => ?_)
  have ne_a1_b7 : a1 ≠ b7 := Nat.ne_of_lt (Nat.lt_of_lt_of_le F10.lt (Nat.le_of_eq g7.symm))
  have ne_w1_b7 : w1 ≠ b7 := Nat.ne_of_lt (Nat.lt_of_lt_of_le F6.lt (Nat.le_of_eq g7.symm))
  replace V7 : Arv Z h7 b7 k7 (.array .int) (3 : Int32) [.null, .null, .null] .null := V7
  show own_Run p e below Φ (T7.setTop (mkF m 18 #[.val (.ref a1), .val (.long q1), .second, .val (.ref w1), .unset] [(.ref b7), (.ref a1)]))
  have F11 : Fld Z h7 a1 "com/example/hueline/hueline/model/BigIntArray" "pages" "[[I" .null := ((H3.other W2 (Or.inr (slot_ne (Or.inl (hw _ (List.mem_of_getElem? (i := 31) rfl))) (Or.inr (hw _ (List.mem_of_getElem? (i := 17) rfl))) (by decide) (t := (.array (.array .int))) (t' := (.object "com/example/hueline/hueline/model/Pages")) (by decide) (by decide)))).ext E7)
  have F12 : Exa Z h7 a1 "com/example/hueline/hueline/model/BigIntArray" := (F10.ext E7)
  obtain ⟨T13, h13, X13, e13, W13, st13⟩ := putF X7 hx hZ hown (host := "") (Or.inl (hw _ (List.mem_of_getElem? (i := 30) rfl))) Via.refl e7 F11 F12 (Or.inl (hw _ (List.mem_of_getElem? (i := 31) rfl))) (hw _ (List.mem_of_getElem? (i := 2) rfl)) (ty := (.array (.array .int))) (by decide) rfl rfl (g := (mkF m 18 #[.val (.ref a1), .val (.long q1), .second, .val (.ref w1), .unset] [(.ref b7), (.ref a1)])) rfl rfl (hb hby d2_18)
  refine own_go st13 ?_
  have G13 : Fld Z h13 a1 "com/example/hueline/hueline/model/BigIntArray" "pages" "[[I" (.ref b7) := F11.same W13
  have N13 := Fr.snoc X13 N5 H6
  refine own_go (fun t k => XS.aloadN X13.here hx rfl (hb hby d2_21) rfl rfl  k) ?_
  refine own_go (fun t k => XS.lloadN X13.here hx rfl (hb hby d2_22) rfl  k) ?_
  have F14 : Fld Z h13 a1 "com/example/hueline/hueline/model/BigIntArray" "length" "J" (.long (0 : Int64)) := (((H4.other W2 (Or.inr (slot_ne (Or.inl (hw _ (List.mem_of_getElem? (i := 33) rfl))) (Or.inr (hw _ (List.mem_of_getElem? (i := 17) rfl))) (by decide) (t := .long) (t' := (.object "com/example/hueline/hueline/model/Pages")) (by decide) (by decide)))).ext E7).other W13 (Or.inr (slot_ne (Or.inl (hw _ (List.mem_of_getElem? (i := 33) rfl))) (Or.inl (hw _ (List.mem_of_getElem? (i := 31) rfl))) (by decide) (t := .long) (t' := (.array (.array .int))) (by decide) (by decide))))
  have F15 : Exa Z h13 a1 "com/example/hueline/hueline/model/BigIntArray" := (F12.wr W13)
  obtain ⟨T16, h16, X16, e16, W16, st16⟩ := putF X13 hx hZ hown (host := "") (Or.inl (hw _ (List.mem_of_getElem? (i := 32) rfl))) Via.refl e13 F14 F15 (Or.inl (hw _ (List.mem_of_getElem? (i := 33) rfl))) (hw _ (List.mem_of_getElem? (i := 2) rfl)) (ty := .long) (by decide) rfl rfl (g := (mkF m 23 #[.val (.ref a1), .val (.long q1), .second, .val (.ref w1), .unset] [(.long q1), (.ref a1)])) rfl rfl (hb hby d2_23)
  refine own_go st16 ?_
  have G16 : Fld Z h16 a1 "com/example/hueline/hueline/model/BigIntArray" "length" "J" (.long q1) := F14.same W16
  have N16 := Fr.snoc X16 N13 H6
  refine own_go (fun t k => XS.iconst X16.here hx rfl (hb hby d2_26) k) ?_
  show own_Run p e below Φ (T16.setTop (mkF m 27 #[.val (.ref a1), .val (.long q1), .second, .val (.ref w1), .unset] [(.int (0 : Int32))]))
  refine own_go (fun t k => XS.istore X16.here hx rfl (hb hby d2_27) rfl (l' := #[.val (.ref a1), .val (.long q1), .second, .val (.ref w1), .val (.int (0 : Int32))]) rfl k) ?_
  refine own_go (fun t k => XS.iload X16.here hx rfl (hb hby d2_29) rfl  k) ?_
  refine own_go (fun t k => XS.aloadN X16.here hx rfl (hb hby d2_31) rfl rfl  k) ?_
  have F17 : Fld Z h16 a1 "com/example/hueline/hueline/model/BigIntArray" "pages" "[[I" (.ref b7) := (G13.other W16 (Or.inr (slot_ne (Or.inl (hw _ (List.mem_of_getElem? (i := 31) rfl))) (Or.inl (hw _ (List.mem_of_getElem? (i := 33) rfl))) (by decide) (t := (.array (.array .int))) (t' := .long) (by decide) (by decide))))
  obtain ⟨T18, X18, e18, st18⟩ := getF X16 hx hZ hown (host := "") (Or.inl (hw _ (List.mem_of_getElem? (i := 30) rfl))) Via.refl e16 F17 (g := (mkF m 32 #[.val (.ref a1), .val (.long q1), .second, .val (.ref w1), .val (.int (0 : Int32))] [(.ref a1), (.int (0 : Int32))])) rfl rfl (hb hby d2_32)
  refine own_go st18 ?_
  have F19 : Arv Z h16 b7 k7 (.array .int) (3 : Int32) [.null, .null, .null] .null := ((V7.other W13 (Ne.symm ne_a1_b7)).other W16 (Ne.symm ne_a1_b7))
  refine own_arrlen X18 hx hZ e18 F19 (g := (mkF m 35 #[.val (.ref a1), .val (.long q1), .second, .val (.ref w1), .val (.int (0 : Int32))] [(.ref b7), (.int (0 : Int32))])) rfl rfl (hb hby d2_35) ?_
  show own_Run p e below Φ (T18.setTop (mkF m 36 #[.val (.ref a1), .val (.long q1), .second, .val (.ref w1), .val (.int (0 : Int32))] [(.int (3 : Int32)), (.int (0 : Int32))]))
  refine own_go (fun t k => XS.icmpNo X18.here hx rfl (hb hby d2_36) rfl (tlt (by decide : (0 : Int32) < (3 : Int32))).2.1 k) ?_
  refine own_go (fun t k => XS.aloadN X18.here hx rfl (hb hby d2_39) rfl rfl  k) ?_
  obtain ⟨T20, X20, e20, st20⟩ := getF X18 hx hZ hown (host := "") (Or.inl (hw _ (List.mem_of_getElem? (i := 30) rfl))) Via.refl e18 F17 (g := (mkF m 40 #[.val (.ref a1), .val (.long q1), .second, .val (.ref w1), .val (.int (0 : Int32))] [(.ref a1)])) rfl rfl (hb hby d2_40)
  refine own_go st20 ?_
  refine own_go (fun t k => XS.iload X20.here hx rfl (hb hby d2_43) rfl  k) ?_
  refine own_go (fun t k => XS.aloadN X20.here hx rfl (hb hby d2_45) rfl rfl  k) ?_
  show own_Run p e below Φ (T20.setTop (mkF m 46 #[.val (.ref a1), .val (.long q1), .second, .val (.ref w1), .val (.int (0 : Int32))] [(.ref w1), (.int (0 : Int32)), (.ref b7)]))
  refine own_go (fun t k => XS.lloadN X20.here hx rfl (hb hby d2_46) rfl  k) ?_
  refine own_go (fun t k => XS.iload X20.here hx rfl (hb hby d2_47) rfl  k) ?_
  have F21 : Fld Z h16 w1 "com/example/hueline/hueline/model/Pages" "length" "I" (.int (4 : Int32)) := ((((H11.other W2 (Or.inl H12)).ext E7).other W13 (Or.inl H12)).other W16 (Or.inl H12))
  have F22 : Fld Z h16 w1 "com/example/hueline/hueline/model/Pages" "shift" "I" (.int (2 : Int32)) := (((F4.ext E7).other W13 (Or.inl H12)).other W16 (Or.inl H12))
  have F24 : Exa Z h16 w1 "com/example/hueline/hueline/model/Pages" := (((F6.ext E7).wr W13).wr W16)
  refine own_callV X20 hx hZ (y := (⟨"com/example/hueline/hueline/model/Pages", "length", "(JI)I"⟩ : MethodName)) (z := (⟨"com/example/hueline/hueline/model/Pages", "length", "(JI)I"⟩ : MethodName)) (W := 2) (a := w1) (argsL := [(.long q1), (.int (0 : Int32))]) (rest := [(.int (0 : Int32)), (.ref b7)]) hown (hw _ (List.mem_of_getElem? (i := 34) rfl)) (hw _ (List.mem_of_getElem? (i := 35) rfl)) (notFace_of_selects (args := #[]) (mvT hZ (hw _ (List.mem_of_getElem? (i := 37) rfl)))) (hw _ (List.mem_of_getElem? (i := 37) rfl)) (hw _ (List.mem_of_getElem? (i := 36) rfl)) (by decide) (own_bk (rm_len l Z a0 hw w1 q1 (0 : Int32) (4 : Int32) (2 : Int32) (4 : Int32) h16 n0 F21 F22 (own_ln 0 (by decide) 4 (by decide) (by omega) (by omega) (by omega) (by omega) (by first | exact Or.inl ⟨by omega, by decide⟩ | exact Or.inr ⟨by omega, by omega⟩))) hZ (hw _ (List.mem_of_getElem? (i := 38) rfl)) (hw _ (List.mem_of_getElem? (i := 8) rfl)) (by decide) (by decide)) e20 F24 (g := (mkF m 49 #[.val (.ref a1), .val (.long q1), .second, .val (.ref w1), .val (.int (0 : Int32))] [(.int (0 : Int32)), (.long q1), (.ref w1), (.int (0 : Int32)), (.ref b7)])) rfl (by rw [hml]; rfl) (lenOf pd_4 rfl) rfl (by show 2 * 0 + _ ≤ _; exact Nat.le_of_eq rfl) (hb hby d2_49) (by decide) (by decide) (fun v23 T23 h23 L23 X23 e23 q23 => ?_)
  obtain ⟨rfl, M23, s23⟩ := q23
  replace e23 : T23.heap = h16 := e23.trans s23
  have N23 := Fr.app N16 M23
  have F26 : n0 ≤ h16.size := (Nat.le_trans (Nat.le_trans (Nat.le_trans F8 E7.1) (Keep.of_wr W13).1) (Keep.of_wr W16).1)
  have F27 : Keep h0 h16 [a1] := (((F9.ext E7).wr W13 (Or.inl (List.mem_of_getElem? (i := 0) rfl))).wr W16 (Or.inl (List.mem_of_getElem? (i := 0) rfl)))
  have F28 : Exa Z h16 a1 "com/example/hueline/hueline/model/BigIntArray" := (F15.wr W16)
  refine own_newPE X23 hx hZ (hw _ (List.mem_of_getElem? (i := 45) rfl)) e23 (g := (mkF m 52 #[.val (.ref a1), .val (.long q1), .second, .val (.ref w1), .val (.int (0 : Int32))] [(.int (4 : Int32)), (.int (0 : Int32)), (.ref b7)])) rfl (hb hby d2_52) rfl (by decide) 4 (by decide) (by decide) (by decide) (by decide) 4 "[I" rfl (fun T25 h25 k25 b25 X25 e25 E25 g25 V25 Y25 => ?_)
  have ne_a1_b25 : a1 ≠ b25 := Nat.ne_of_lt (Nat.lt_of_lt_of_le F28.lt (Nat.le_of_eq g25.symm))
  have ne_w1_b25 : w1 ≠ b25 := Nat.ne_of_lt (Nat.lt_of_lt_of_le F24.lt (Nat.le_of_eq g25.symm))
  have ne_b7_b25 : b7 ≠ b25 := Nat.ne_of_lt (Nat.lt_of_lt_of_le F19.lt (Nat.le_of_eq g25.symm))
  replace V25 : Arv Z h25 b25 k25 .int (4 : Int32) [(.int (0 : Int32)), (.int (0 : Int32)), (.int (0 : Int32)), (.int (0 : Int32))] (.int (0 : Int32)) := V25
  have F30 : Arv Z h25 b7 k7 (.array .int) (3 : Int32) [.null, .null, .null] .null := (F19.ext E25)
  refine own_aastore X25 hx hZ e25 F30 O7 Y25 (hw _ (List.mem_of_getElem? (i := 46) rfl)) (j := (0 : Int32)) ⟨by decide, by decide⟩ 0 rfl (Nat.le_of_ble_eq_true rfl) (g := (mkF m 54 #[.val (.ref a1), .val (.long q1), .second, .val (.ref w1), .val (.int (0 : Int32))] [(.ref b25), (.int (0 : Int32)), (.ref b7)])) rfl rfl (hb hby d2_54) (fun T31 h31 X31 e31 W31 V31 => ?_)
  replace V31 : Arv Z h31 b7 k7 (.array .int) (3 : Int32) [(.ref b25), .null, .null] .null := V31
  have N31 := Fr.snoc X31 N23 (Nat.le_trans F8 (Nat.le_of_eq g7.symm))
  show own_Run p e below Φ (T31.setTop (mkF m 55 #[.val (.ref a1), .val (.long q1), .second, .val (.ref w1), .val (.int (0 : Int32))] []))
  refine own_go (fun t k => XS.iinc X31.here hx rfl (hb hby d2_55) rfl (l' := #[.val (.ref a1), .val (.long q1), .second, .val (.ref w1), .val (.int ((0 : Int32) + (1 : Int32)))]) rfl k) ?_
  show own_Run p e below Φ (T31.setTop (mkF m 58 #[.val (.ref a1), .val (.long q1), .second, .val (.ref w1), .val (.int ((0 : Int32) + (1 : Int32)))] []))
  rw [show ((0 : Int32) + (1 : Int32)) = (1 : Int32) from by decide]
  show own_Run p e below Φ (T31.setTop (mkF m 58 #[.val (.ref a1), .val (.long q1), .second, .val (.ref w1), .val (.int (1 : Int32))] []))
  refine own_go (fun t k => XS.goto X31.here hx rfl (pc0 := 58) (pc' := 29) rfl (hb hby d2_58) (by decide) (by decide) k) ?_
  refine own_go (fun t k => XS.iload X31.here hx rfl (hb hby d2_29) rfl  k) ?_
  refine own_go (fun t k => XS.aloadN X31.here hx rfl (hb hby d2_31) rfl rfl  k) ?_
  have F32 : Fld Z h31 a1 "com/example/hueline/hueline/model/BigIntArray" "pages" "[[I" (.ref b7) := ((F17.ext E25).other W31 (Or.inl ne_a1_b7))
  obtain ⟨T33, X33, e33, st33⟩ := getF X31 hx hZ hown (host := "") (Or.inl (hw _ (List.mem_of_getElem? (i := 30) rfl))) Via.refl e31 F32 (g := (mkF m 32 #[.val (.ref a1), .val (.long q1), .second, .val (.ref w1), .val (.int (1 : Int32))] [(.ref a1), (.int (1 : Int32))])) rfl rfl (hb hby d2_32)
  refine own_go st33 ?_
  refine own_arrlen X33 hx hZ e33 V31 (g := (mkF m 35 #[.val (.ref a1), .val (.long q1), .second, .val (.ref w1), .val (.int (1 : Int32))] [(.ref b7), (.int (1 : Int32))])) rfl rfl (hb hby d2_35) ?_
  show own_Run p e below Φ (T33.setTop (mkF m 36 #[.val (.ref a1), .val (.long q1), .second, .val (.ref w1), .val (.int (1 : Int32))] [(.int (3 : Int32)), (.int (1 : Int32))]))
  refine own_go (fun t k => XS.icmpNo X33.here hx rfl (hb hby d2_36) rfl (tlt (by decide : (1 : Int32) < (3 : Int32))).2.1 k) ?_
  refine own_go (fun t k => XS.aloadN X33.here hx rfl (hb hby d2_39) rfl rfl  k) ?_
  obtain ⟨T34, X34, e34, st34⟩ := getF X33 hx hZ hown (host := "") (Or.inl (hw _ (List.mem_of_getElem? (i := 30) rfl))) Via.refl e33 F32 (g := (mkF m 40 #[.val (.ref a1), .val (.long q1), .second, .val (.ref w1), .val (.int (1 : Int32))] [(.ref a1)])) rfl rfl (hb hby d2_40)
  refine own_go st34 ?_
  refine own_go (fun t k => XS.iload X34.here hx rfl (hb hby d2_43) rfl  k) ?_
  refine own_go (fun t k => XS.aloadN X34.here hx rfl (hb hby d2_45) rfl rfl  k) ?_
  show own_Run p e below Φ (T34.setTop (mkF m 46 #[.val (.ref a1), .val (.long q1), .second, .val (.ref w1), .val (.int (1 : Int32))] [(.ref w1), (.int (1 : Int32)), (.ref b7)]))
  refine own_go (fun t k => XS.lloadN X34.here hx rfl (hb hby d2_46) rfl  k) ?_
  refine own_go (fun t k => XS.iload X34.here hx rfl (hb hby d2_47) rfl  k) ?_
  have F35 : Fld Z h31 w1 "com/example/hueline/hueline/model/Pages" "length" "I" (.int (4 : Int32)) := ((F21.ext E25).other W31 (Or.inl ne_w1_b7))
  have F36 : Fld Z h31 w1 "com/example/hueline/hueline/model/Pages" "shift" "I" (.int (2 : Int32)) := ((F22.ext E25).other W31 (Or.inl ne_w1_b7))
  have F38 : Exa Z h31 w1 "com/example/hueline/hueline/model/Pages" := ((F24.ext E25).wr W31)
  refine own_callV X34 hx hZ (y := (⟨"com/example/hueline/hueline/model/Pages", "length", "(JI)I"⟩ : MethodName)) (z := (⟨"com/example/hueline/hueline/model/Pages", "length", "(JI)I"⟩ : MethodName)) (W := 2) (a := w1) (argsL := [(.long q1), (.int (1 : Int32))]) (rest := [(.int (1 : Int32)), (.ref b7)]) hown (hw _ (List.mem_of_getElem? (i := 34) rfl)) (hw _ (List.mem_of_getElem? (i := 35) rfl)) (notFace_of_selects (args := #[]) (mvT hZ (hw _ (List.mem_of_getElem? (i := 37) rfl)))) (hw _ (List.mem_of_getElem? (i := 37) rfl)) (hw _ (List.mem_of_getElem? (i := 36) rfl)) (by decide) (own_bk (rm_len l Z a0 hw w1 q1 (1 : Int32) (4 : Int32) (2 : Int32) (4 : Int32) h31 n0 F35 F36 (own_ln 4 (by decide) 4 (by decide) (by omega) (by omega) (by omega) (by omega) (by first | exact Or.inl ⟨by omega, by decide⟩ | exact Or.inr ⟨by omega, by omega⟩))) hZ (hw _ (List.mem_of_getElem? (i := 38) rfl)) (hw _ (List.mem_of_getElem? (i := 8) rfl)) (by decide) (by decide)) e34 F38 (g := (mkF m 49 #[.val (.ref a1), .val (.long q1), .second, .val (.ref w1), .val (.int (1 : Int32))] [(.int (1 : Int32)), (.long q1), (.ref w1), (.int (1 : Int32)), (.ref b7)])) rfl (by rw [hml]; rfl) (lenOf pd_4 rfl) rfl (by show 2 * 0 + _ ≤ _; exact Nat.le_of_eq rfl) (hb hby d2_49) (by decide) (by decide) (fun v37 T37 h37 L37 X37 e37 q37 => ?_)
  obtain ⟨rfl, M37, s37⟩ := q37
  replace e37 : T37.heap = h31 := e37.trans s37
  have N37 := Fr.app N31 M37
  have F40 : n0 ≤ h31.size := (Nat.le_trans (Nat.le_trans F26 E25.1) (Keep.of_wr W31).1)
  have F41 : Keep h0 h31 [a1] := ((F27.ext E25).wr W31 (Or.inr (Nat.le_trans F9.1 (Nat.le_of_eq g7.symm))))
  have F42 : Exa Z h31 a1 "com/example/hueline/hueline/model/BigIntArray" := ((F28.ext E25).wr W31)
  have F43 : Arv Z h31 b25 k25 .int (4 : Int32) [(.int (0 : Int32)), (.int (0 : Int32)), (.int (0 : Int32)), (.int (0 : Int32))] (.int (0 : Int32)) := (V25.other W31 (Ne.symm ne_b7_b25))
  refine own_newPE X37 hx hZ (hw _ (List.mem_of_getElem? (i := 45) rfl)) e37 (g := (mkF m 52 #[.val (.ref a1), .val (.long q1), .second, .val (.ref w1), .val (.int (1 : Int32))] [(.int (4 : Int32)), (.int (1 : Int32)), (.ref b7)])) rfl (hb hby d2_52) rfl (by decide) 4 (by decide) (by decide) (by decide) (by decide) 4 "[I" rfl (fun T39 h39 k39 b39 X39 e39 E39 g39 V39 Y39 => ?_)
  have ne_a1_b39 : a1 ≠ b39 := Nat.ne_of_lt (Nat.lt_of_lt_of_le F42.lt (Nat.le_of_eq g39.symm))
  have ne_w1_b39 : w1 ≠ b39 := Nat.ne_of_lt (Nat.lt_of_lt_of_le F38.lt (Nat.le_of_eq g39.symm))
  have ne_b7_b39 : b7 ≠ b39 := Nat.ne_of_lt (Nat.lt_of_lt_of_le V31.lt (Nat.le_of_eq g39.symm))
  have ne_b25_b39 : b25 ≠ b39 := Nat.ne_of_lt (Nat.lt_of_lt_of_le F43.lt (Nat.le_of_eq g39.symm))
  replace V39 : Arv Z h39 b39 k39 .int (4 : Int32) [(.int (0 : Int32)), (.int (0 : Int32)), (.int (0 : Int32)), (.int (0 : Int32))] (.int (0 : Int32)) := V39
  have F45 : Arv Z h39 b7 k7 (.array .int) (3 : Int32) [(.ref b25), .null, .null] .null := (V31.ext E39)
  refine own_aastore X39 hx hZ e39 F45 O7 Y39 (hw _ (List.mem_of_getElem? (i := 46) rfl)) (j := (1 : Int32)) ⟨by decide, by decide⟩ 1 rfl (Nat.le_of_ble_eq_true rfl) (g := (mkF m 54 #[.val (.ref a1), .val (.long q1), .second, .val (.ref w1), .val (.int (1 : Int32))] [(.ref b39), (.int (1 : Int32)), (.ref b7)])) rfl rfl (hb hby d2_54) (fun T46 h46 X46 e46 W46 V46 => ?_)
  replace V46 : Arv Z h46 b7 k7 (.array .int) (3 : Int32) [(.ref b25), (.ref b39), .null] .null := V46
  have N46 := Fr.snoc X46 N37 (Nat.le_trans F8 (Nat.le_of_eq g7.symm))
  show own_Run p e below Φ (T46.setTop (mkF m 55 #[.val (.ref a1), .val (.long q1), .second, .val (.ref w1), .val (.int (1 : Int32))] []))
  refine own_go (fun t k => XS.iinc X46.here hx rfl (hb hby d2_55) rfl (l' := #[.val (.ref a1), .val (.long q1), .second, .val (.ref w1), .val (.int ((1 : Int32) + (1 : Int32)))]) rfl k) ?_
  show own_Run p e below Φ (T46.setTop (mkF m 58 #[.val (.ref a1), .val (.long q1), .second, .val (.ref w1), .val (.int ((1 : Int32) + (1 : Int32)))] []))
  rw [show ((1 : Int32) + (1 : Int32)) = (2 : Int32) from by decide]
  show own_Run p e below Φ (T46.setTop (mkF m 58 #[.val (.ref a1), .val (.long q1), .second, .val (.ref w1), .val (.int (2 : Int32))] []))
  refine own_go (fun t k => XS.goto X46.here hx rfl (pc0 := 58) (pc' := 29) rfl (hb hby d2_58) (by decide) (by decide) k) ?_
  refine own_go (fun t k => XS.iload X46.here hx rfl (hb hby d2_29) rfl  k) ?_
  refine own_go (fun t k => XS.aloadN X46.here hx rfl (hb hby d2_31) rfl rfl  k) ?_
  have F47 : Fld Z h46 a1 "com/example/hueline/hueline/model/BigIntArray" "pages" "[[I" (.ref b7) := ((F32.ext E39).other W46 (Or.inl ne_a1_b7))
  obtain ⟨T48, X48, e48, st48⟩ := getF X46 hx hZ hown (host := "") (Or.inl (hw _ (List.mem_of_getElem? (i := 30) rfl))) Via.refl e46 F47 (g := (mkF m 32 #[.val (.ref a1), .val (.long q1), .second, .val (.ref w1), .val (.int (2 : Int32))] [(.ref a1), (.int (2 : Int32))])) rfl rfl (hb hby d2_32)
  refine own_go st48 ?_
  refine own_arrlen X48 hx hZ e48 V46 (g := (mkF m 35 #[.val (.ref a1), .val (.long q1), .second, .val (.ref w1), .val (.int (2 : Int32))] [(.ref b7), (.int (2 : Int32))])) rfl rfl (hb hby d2_35) ?_
  show own_Run p e below Φ (T48.setTop (mkF m 36 #[.val (.ref a1), .val (.long q1), .second, .val (.ref w1), .val (.int (2 : Int32))] [(.int (3 : Int32)), (.int (2 : Int32))]))
  refine own_go (fun t k => XS.icmpNo X48.here hx rfl (hb hby d2_36) rfl (tlt (by decide : (2 : Int32) < (3 : Int32))).2.1 k) ?_
  refine own_go (fun t k => XS.aloadN X48.here hx rfl (hb hby d2_39) rfl rfl  k) ?_
  obtain ⟨T49, X49, e49, st49⟩ := getF X48 hx hZ hown (host := "") (Or.inl (hw _ (List.mem_of_getElem? (i := 30) rfl))) Via.refl e48 F47 (g := (mkF m 40 #[.val (.ref a1), .val (.long q1), .second, .val (.ref w1), .val (.int (2 : Int32))] [(.ref a1)])) rfl rfl (hb hby d2_40)
  refine own_go st49 ?_
  refine own_go (fun t k => XS.iload X49.here hx rfl (hb hby d2_43) rfl  k) ?_
  refine own_go (fun t k => XS.aloadN X49.here hx rfl (hb hby d2_45) rfl rfl  k) ?_
  show own_Run p e below Φ (T49.setTop (mkF m 46 #[.val (.ref a1), .val (.long q1), .second, .val (.ref w1), .val (.int (2 : Int32))] [(.ref w1), (.int (2 : Int32)), (.ref b7)]))
  refine own_go (fun t k => XS.lloadN X49.here hx rfl (hb hby d2_46) rfl  k) ?_
  refine own_go (fun t k => XS.iload X49.here hx rfl (hb hby d2_47) rfl  k) ?_
  have F50 : Fld Z h46 w1 "com/example/hueline/hueline/model/Pages" "length" "I" (.int (4 : Int32)) := ((F35.ext E39).other W46 (Or.inl ne_w1_b7))
  have F51 : Fld Z h46 w1 "com/example/hueline/hueline/model/Pages" "shift" "I" (.int (2 : Int32)) := ((F36.ext E39).other W46 (Or.inl ne_w1_b7))
  have F53 : Exa Z h46 w1 "com/example/hueline/hueline/model/Pages" := ((F38.ext E39).wr W46)
  refine own_callV X49 hx hZ (y := (⟨"com/example/hueline/hueline/model/Pages", "length", "(JI)I"⟩ : MethodName)) (z := (⟨"com/example/hueline/hueline/model/Pages", "length", "(JI)I"⟩ : MethodName)) (W := 2) (a := w1) (argsL := [(.long q1), (.int (2 : Int32))]) (rest := [(.int (2 : Int32)), (.ref b7)]) hown (hw _ (List.mem_of_getElem? (i := 34) rfl)) (hw _ (List.mem_of_getElem? (i := 35) rfl)) (notFace_of_selects (args := #[]) (mvT hZ (hw _ (List.mem_of_getElem? (i := 37) rfl)))) (hw _ (List.mem_of_getElem? (i := 37) rfl)) (hw _ (List.mem_of_getElem? (i := 36) rfl)) (by decide) (own_bk (rm_len l Z a0 hw w1 q1 (2 : Int32) (4 : Int32) (2 : Int32) zl h46 n0 F50 F51 (own_ln 8 (by decide) 4 (by decide) (by omega) (by omega) (by omega) (by omega) (by first | exact Or.inl ⟨by omega, by decide⟩ | exact Or.inr ⟨by omega, by omega⟩))) hZ (hw _ (List.mem_of_getElem? (i := 38) rfl)) (hw _ (List.mem_of_getElem? (i := 8) rfl)) (by decide) (by decide)) e49 F53 (g := (mkF m 49 #[.val (.ref a1), .val (.long q1), .second, .val (.ref w1), .val (.int (2 : Int32))] [(.int (2 : Int32)), (.long q1), (.ref w1), (.int (2 : Int32)), (.ref b7)])) rfl (by rw [hml]; rfl) (lenOf pd_4 rfl) rfl (by show 2 * 0 + _ ≤ _; exact Nat.le_of_eq rfl) (hb hby d2_49) (by decide) (by decide) (fun v52 T52 h52 L52 X52 e52 q52 => ?_)
  obtain ⟨rfl, M52, s52⟩ := q52
  replace e52 : T52.heap = h46 := e52.trans s52
  have N52 := Fr.app N46 M52
  have F55 : n0 ≤ h46.size := (Nat.le_trans (Nat.le_trans F40 E39.1) (Keep.of_wr W46).1)
  have F56 : Keep h0 h46 [a1] := ((F41.ext E39).wr W46 (Or.inr (Nat.le_trans F9.1 (Nat.le_of_eq g7.symm))))
  have F57 : Exa Z h46 a1 "com/example/hueline/hueline/model/BigIntArray" := ((F42.ext E39).wr W46)
  have F58 : Arv Z h46 b25 k25 .int (4 : Int32) [(.int (0 : Int32)), (.int (0 : Int32)), (.int (0 : Int32)), (.int (0 : Int32))] (.int (0 : Int32)) := ((F43.ext E39).other W46 (Ne.symm ne_b7_b25))
  have F59 : Arv Z h46 b39 k39 .int (4 : Int32) [(.int (0 : Int32)), (.int (0 : Int32)), (.int (0 : Int32)), (.int (0 : Int32))] (.int (0 : Int32)) := (V39.other W46 (Ne.symm ne_b7_b39))
  refine own_newPE X52 hx hZ (hw _ (List.mem_of_getElem? (i := 45) rfl)) e52 (g := (mkF m 52 #[.val (.ref a1), .val (.long q1), .second, .val (.ref w1), .val (.int (2 : Int32))] [(.int zl), (.int (2 : Int32)), (.ref b7)])) rfl (hb hby d2_52) rfl (fun q => by rw [Int32.lt_iff_toInt_lt] at q; simp only [Int32.reduceToInt] at q; omega) 4 (by show zl.toInt.toNat ≤ 4; omega) (by decide) (by decide) (by decide) 4 "[I" rfl (fun T54 h54 k54 b54 X54 e54 E54 g54 V54 Y54 => ?_)
  have ne_a1_b54 : a1 ≠ b54 := Nat.ne_of_lt (Nat.lt_of_lt_of_le F57.lt (Nat.le_of_eq g54.symm))
  have ne_w1_b54 : w1 ≠ b54 := Nat.ne_of_lt (Nat.lt_of_lt_of_le F53.lt (Nat.le_of_eq g54.symm))
  have ne_b7_b54 : b7 ≠ b54 := Nat.ne_of_lt (Nat.lt_of_lt_of_le V46.lt (Nat.le_of_eq g54.symm))
  have ne_b25_b54 : b25 ≠ b54 := Nat.ne_of_lt (Nat.lt_of_lt_of_le F58.lt (Nat.le_of_eq g54.symm))
  have ne_b39_b54 : b39 ≠ b54 := Nat.ne_of_lt (Nat.lt_of_lt_of_le F59.lt (Nat.le_of_eq g54.symm))
  replace V54 : Arv Z h54 b54 k54 .int zl [(.int (0 : Int32)), (.int (0 : Int32)), (.int (0 : Int32)), (.int (0 : Int32))] (.int (0 : Int32)) := V54
  have F61 : Arv Z h54 b7 k7 (.array .int) (3 : Int32) [(.ref b25), (.ref b39), .null] .null := (V46.ext E54)
  refine own_aastore X54 hx hZ e54 F61 O7 Y54 (hw _ (List.mem_of_getElem? (i := 46) rfl)) (j := (2 : Int32)) ⟨by decide, by decide⟩ 2 rfl (Nat.le_of_ble_eq_true rfl) (g := (mkF m 54 #[.val (.ref a1), .val (.long q1), .second, .val (.ref w1), .val (.int (2 : Int32))] [(.ref b54), (.int (2 : Int32)), (.ref b7)])) rfl rfl (hb hby d2_54) (fun T62 h62 X62 e62 W62 V62 => ?_)
  replace V62 : Arv Z h62 b7 k7 (.array .int) (3 : Int32) [(.ref b25), (.ref b39), (.ref b54)] .null := V62
  have N62 := Fr.snoc X62 N52 (Nat.le_trans F8 (Nat.le_of_eq g7.symm))
  show own_Run p e below Φ (T62.setTop (mkF m 55 #[.val (.ref a1), .val (.long q1), .second, .val (.ref w1), .val (.int (2 : Int32))] []))
  refine own_go (fun t k => XS.iinc X62.here hx rfl (hb hby d2_55) rfl (l' := #[.val (.ref a1), .val (.long q1), .second, .val (.ref w1), .val (.int ((2 : Int32) + (1 : Int32)))]) rfl k) ?_
  show own_Run p e below Φ (T62.setTop (mkF m 58 #[.val (.ref a1), .val (.long q1), .second, .val (.ref w1), .val (.int ((2 : Int32) + (1 : Int32)))] []))
  rw [show ((2 : Int32) + (1 : Int32)) = (3 : Int32) from by decide]
  show own_Run p e below Φ (T62.setTop (mkF m 58 #[.val (.ref a1), .val (.long q1), .second, .val (.ref w1), .val (.int (3 : Int32))] []))
  refine own_go (fun t k => XS.goto X62.here hx rfl (pc0 := 58) (pc' := 29) rfl (hb hby d2_58) (by decide) (by decide) k) ?_
  refine own_go (fun t k => XS.iload X62.here hx rfl (hb hby d2_29) rfl  k) ?_
  refine own_go (fun t k => XS.aloadN X62.here hx rfl (hb hby d2_31) rfl rfl  k) ?_
  have F63 : Fld Z h62 a1 "com/example/hueline/hueline/model/BigIntArray" "pages" "[[I" (.ref b7) := ((F47.ext E54).other W62 (Or.inl ne_a1_b7))
  obtain ⟨T64, X64, e64, st64⟩ := getF X62 hx hZ hown (host := "") (Or.inl (hw _ (List.mem_of_getElem? (i := 30) rfl))) Via.refl e62 F63 (g := (mkF m 32 #[.val (.ref a1), .val (.long q1), .second, .val (.ref w1), .val (.int (3 : Int32))] [(.ref a1), (.int (3 : Int32))])) rfl rfl (hb hby d2_32)
  refine own_go st64 ?_
  refine own_arrlen X64 hx hZ e64 V62 (g := (mkF m 35 #[.val (.ref a1), .val (.long q1), .second, .val (.ref w1), .val (.int (3 : Int32))] [(.ref b7), (.int (3 : Int32))])) rfl rfl (hb hby d2_35) ?_
  show own_Run p e below Φ (T64.setTop (mkF m 36 #[.val (.ref a1), .val (.long q1), .second, .val (.ref w1), .val (.int (3 : Int32))] [(.int (3 : Int32)), (.int (3 : Int32))]))
  refine own_go (fun t k => XS.icmpYes X64.here hx rfl (pc0 := 36) (pc' := 61) rfl (hb hby d2_36) rfl (flt (by decide : ¬ ((3 : Int32) < (3 : Int32)))).2.1 (by decide) (by decide) k) ?_
  refine own_go (fun t k => XS.aloadN X64.here hx rfl (hb hby d2_61) rfl rfl  k) ?_
  refine own_go (fun t k => XS.aloadN X64.here hx rfl (hb hby d2_62) rfl rfl  k) ?_
  obtain ⟨T65, X65, e65, st65⟩ := getF X64 hx hZ hown (host := "") (Or.inl (hw _ (List.mem_of_getElem? (i := 30) rfl))) Via.refl e64 F63 (g := (mkF m 63 #[.val (.ref a1), .val (.long q1), .second, .val (.ref w1), .val (.int (3 : Int32))] [(.ref a1), (.ref a1)])) rfl rfl (hb hby d2_63)
  refine own_go st65 ?_
  refine own_arrlen X65 hx hZ e65 V62 (g := (mkF m 66 #[.val (.ref a1), .val (.long q1), .second, .val (.ref w1), .val (.int (3 : Int32))] [(.ref b7), (.ref a1)])) rfl rfl (hb hby d2_66) ?_
  show own_Run p e below Φ (T65.setTop (mkF m 67 #[.val (.ref a1), .val (.long q1), .second, .val (.ref w1), .val (.int (3 : Int32))] [(.int (3 : Int32)), (.ref a1)]))
  refine own_go (fun t k => XS.iconst X65.here hx rfl (hb hby d2_67) k) ?_
  refine own_go (fun t k => XS.icmpYes X65.here hx rfl (pc0 := 68) (pc' := 80) rfl (hb hby d2_68) rfl (feq (by decide : ¬ ((3 : Int32) = (1 : Int32)))).2 (by decide) (by decide) k) ?_
  refine own_go (fun t k => XS.aconstNull X65.here hx rfl (hb hby d2_80) k) ?_
  have F66 : Fld Z h62 a1 "com/example/hueline/hueline/model/BigIntArray" "flat" "[I" .null := ((((((((((H5.other W2 (Or.inr (slot_ne (Or.inl (hw _ (List.mem_of_getElem? (i := 48) rfl))) (Or.inr (hw _ (List.mem_of_getElem? (i := 17) rfl))) (by decide) (t := (.array .int)) (t' := (.object "com/example/hueline/hueline/model/Pages")) (by decide) (by decide)))).ext E7).other W13 (Or.inr (slot_ne (Or.inl (hw _ (List.mem_of_getElem? (i := 48) rfl))) (Or.inl (hw _ (List.mem_of_getElem? (i := 31) rfl))) (by decide) (t := (.array .int)) (t' := (.array (.array .int))) (by decide) (by decide)))).other W16 (Or.inr (slot_ne (Or.inl (hw _ (List.mem_of_getElem? (i := 48) rfl))) (Or.inl (hw _ (List.mem_of_getElem? (i := 33) rfl))) (by decide) (t := (.array .int)) (t' := .long) (by decide) (by decide)))).ext E25).other W31 (Or.inl ne_a1_b7)).ext E39).other W46 (Or.inl ne_a1_b7)).ext E54).other W62 (Or.inl ne_a1_b7))
  have F67 : Exa Z h62 a1 "com/example/hueline/hueline/model/BigIntArray" := ((F57.ext E54).wr W62)
  obtain ⟨T68, h68, X68, e68, W68, st68⟩ := putF X65 hx hZ hown (host := "") (Or.inl (hw _ (List.mem_of_getElem? (i := 47) rfl))) Via.refl e65 F66 F67 (Or.inl (hw _ (List.mem_of_getElem? (i := 48) rfl))) (hw _ (List.mem_of_getElem? (i := 2) rfl)) (ty := (.array .int)) (by decide) rfl rfl (g := (mkF m 81 #[.val (.ref a1), .val (.long q1), .second, .val (.ref w1), .val (.int (3 : Int32))] [.null, (.ref a1)])) rfl rfl (hb hby d2_81)
  refine own_go st68 ?_
  have G68 : Fld Z h68 a1 "com/example/hueline/hueline/model/BigIntArray" "flat" "[I" .null := F66.same W68
  have N68 := Fr.snoc X68 N62 H6
  have F69 : Keep h0 h68 [a1] := (((F56.ext E54).wr W62 (Or.inr (Nat.le_trans F9.1 (Nat.le_of_eq g7.symm)))).wr W68 (Or.inl (List.mem_of_getElem? (i := 0) rfl)))
  have F70 : Fld Z h68 a1 "com/example/hueline/hueline/model/BigIntArray" "layout" "Lcom/example/hueline/hueline/model/Pages;" (.ref w1) := ((((((((((G2.ext E7).other W13 (Or.inr (slot_ne (Or.inr (hw _ (List.mem_of_getElem? (i := 17) rfl))) (Or.inl (hw _ (List.mem_of_getElem? (i := 31) rfl))) (by decide) (t := (.object "com/example/hueline/hueline/model/Pages")) (t' := (.array (.array .int))) (by decide) (by decide)))).other W16 (Or.inr (slot_ne (Or.inr (hw _ (List.mem_of_getElem? (i := 17) rfl))) (Or.inl (hw _ (List.mem_of_getElem? (i := 33) rfl))) (by decide) (t := (.object "com/example/hueline/hueline/model/Pages")) (t' := .long) (by decide) (by decide)))).ext E25).other W31 (Or.inl ne_a1_b7)).ext E39).other W46 (Or.inl ne_a1_b7)).ext E54).other W62 (Or.inl ne_a1_b7)).other W68 (Or.inr (slot_ne (Or.inr (hw _ (List.mem_of_getElem? (i := 17) rfl))) (Or.inl (hw _ (List.mem_of_getElem? (i := 48) rfl))) (by decide) (t := (.object "com/example/hueline/hueline/model/Pages")) (t' := (.array .int)) (by decide) (by decide))))
  have F71 : Fld Z h68 a1 "com/example/hueline/hueline/model/BigIntArray" "length" "J" (.long q1) := (((((((G16.ext E25).other W31 (Or.inl ne_a1_b7)).ext E39).other W46 (Or.inl ne_a1_b7)).ext E54).other W62 (Or.inl ne_a1_b7)).other W68 (Or.inr (slot_ne (Or.inl (hw _ (List.mem_of_getElem? (i := 33) rfl))) (Or.inl (hw _ (List.mem_of_getElem? (i := 48) rfl))) (by decide) (t := .long) (t' := (.array .int)) (by decide) (by decide))))
  have F72 : Fld Z h68 a1 "com/example/hueline/hueline/model/BigIntArray" "pages" "[[I" (.ref b7) := (F63.other W68 (Or.inr (slot_ne (Or.inl (hw _ (List.mem_of_getElem? (i := 31) rfl))) (Or.inl (hw _ (List.mem_of_getElem? (i := 48) rfl))) (by decide) (t := (.array (.array .int))) (t' := (.array .int)) (by decide) (by decide))))
  have F73 : Arv Z h68 b7 k7 (.array .int) (3 : Int32) [(.ref b25), (.ref b39), (.ref b54)] .null := (V62.other W68 (Ne.symm ne_a1_b7))
  have F74 : Arv Z h68 b25 k25 .int (4 : Int32) [(.int (0 : Int32)), (.int (0 : Int32)), (.int (0 : Int32)), (.int (0 : Int32))] (.int (0 : Int32)) := (((F58.ext E54).other W62 (Ne.symm ne_b7_b25)).other W68 (Ne.symm ne_a1_b25))
  have F75 : Arv Z h68 b39 k39 .int (4 : Int32) [(.int (0 : Int32)), (.int (0 : Int32)), (.int (0 : Int32)), (.int (0 : Int32))] (.int (0 : Int32)) := (((F59.ext E54).other W62 (Ne.symm ne_b7_b39)).other W68 (Ne.symm ne_a1_b39))
  have F76 : Arv Z h68 b54 k54 .int zl [(.int (0 : Int32)), (.int (0 : Int32)), (.int (0 : Int32)), (.int (0 : Int32))] (.int (0 : Int32)) := ((V54.other W62 (Ne.symm ne_b7_b54)).other W68 (Ne.symm ne_a1_b54))
  subst hΦ
  exact own_retV X68 hx Bd.returns hlk (hb hby d2_84) e68 ⟨rfl, N68, F69, F70, F71, G68, ⟨_, _, _, _, _, _, _, _, (Nat.le_trans F8 (Nat.le_of_eq g7.symm)), (Nat.le_trans F9.1 (Nat.le_of_eq g7.symm)), (Nat.le_trans F26 (Nat.le_of_eq g25.symm)), (Nat.le_trans F27.1 (Nat.le_of_eq g25.symm)), (Nat.le_trans F40 (Nat.le_of_eq g39.symm)), (Nat.le_trans F41.1 (Nat.le_of_eq g39.symm)), (Nat.le_trans F55 (Nat.le_of_eq g54.symm)), (Nat.le_trans F56.1 (Nat.le_of_eq g54.symm)), ne_b7_b25, ne_b7_b39, ne_b7_b54, ne_b25_b39, ne_b25_b54, ne_b39_b54, F72, F73, F74, F75, F76⟩⟩ (by decide) (by decide)
set_option maxRecDepth 65536 in
set_option maxHeartbeats 40000000 in
theorem rm_ct4 (l : Launch) (Z : State) (a0 : Array Value) (hw : ∀ d ∈ tables_1, d.before a0 Z = true) (a1 : Addr) (q1 : Int64) (w1 : Addr) (zl : Int32) (h0 : Heap) (n0 : Nat) (H1 : Exa Z h0 a1 "com/example/hueline/hueline/model/BigIntArray") (H2 : Fld Z h0 a1 "com/example/hueline/hueline/model/BigIntArray" "layout" "Lcom/example/hueline/hueline/model/Pages;" .null) (H3 : Fld Z h0 a1 "com/example/hueline/hueline/model/BigIntArray" "pages" "[[I" .null) (H4 : Fld Z h0 a1 "com/example/hueline/hueline/model/BigIntArray" "length" "J" (.long (0 : Int64))) (H5 : Fld Z h0 a1 "com/example/hueline/hueline/model/BigIntArray" "flat" "[I" .null) (H6 : n0 ≤ a1) (H7 : n0 ≤ h0.size) (H8 : Exa Z h0 w1 "com/example/hueline/hueline/model/Pages") (H9 : Fld Z h0 w1 "com/example/hueline/hueline/model/Pages" "mask" "I" (.int (3 : Int32))) (H10 : Fld Z h0 w1 "com/example/hueline/hueline/model/Pages" "shift" "I" (.int (2 : Int32))) (H11 : Fld Z h0 w1 "com/example/hueline/hueline/model/Pages" "length" "I" (.int (4 : Int32))) (H12 : w1 ≠ a1) (hz : 1 ≤ zl.toInt ∧ zl.toInt ≤ 4) (hn : q1.toInt = 12 + zl.toInt) :
    own_Met l Z (⟨"com/example/hueline/hueline/model/BigIntArray", "<init>", "(JLcom/example/hueline/hueline/model/Pages;)V"⟩ : MethodName) prog_36_method_2_code 5 none ({ frames := 2, cells := 5, slots := 20, locals := 32 } : Room) #[(.ref a1), (.long q1), (.ref w1)] h0 (fun v h L => v = none ∧ Fr n0 L ∧ Keep h0 h [a1] ∧ Fld Z h a1 "com/example/hueline/hueline/model/BigIntArray" "layout" "Lcom/example/hueline/hueline/model/Pages;" (.ref w1) ∧ Fld Z h a1 "com/example/hueline/hueline/model/BigIntArray" "length" "J" (.long q1) ∧ Fld Z h a1 "com/example/hueline/hueline/model/BigIntArray" "flat" "[I" .null ∧ ∃ (x9 : Addr) (k9 : ClassId) (x0 : Addr) (k0 : ClassId) (x1 : Addr) (k1 : ClassId) (x2 : Addr) (k2 : ClassId) (x3 : Addr) (k3 : ClassId), n0 ≤ x9 ∧ h0.size ≤ x9 ∧ n0 ≤ x0 ∧ h0.size ≤ x0 ∧ n0 ≤ x1 ∧ h0.size ≤ x1 ∧ n0 ≤ x2 ∧ h0.size ≤ x2 ∧ n0 ≤ x3 ∧ h0.size ≤ x3 ∧ x9 ≠ x0 ∧ x9 ≠ x1 ∧ x9 ≠ x2 ∧ x9 ≠ x3 ∧ x0 ≠ x1 ∧ x0 ≠ x2 ∧ x0 ≠ x3 ∧ x1 ≠ x2 ∧ x1 ≠ x3 ∧ x2 ≠ x3 ∧ Fld Z h a1 "com/example/hueline/hueline/model/BigIntArray" "pages" "[[I" (.ref x9) ∧ Arv Z h x9 k9 (.array .int) (4 : Int32) [(.ref x0), (.ref x1), (.ref x2), (.ref x3)] .null ∧ Arv Z h x0 k0 .int (4 : Int32) (own_p0 own_z) (.int (0 : Int32)) ∧ Arv Z h x1 k1 .int (4 : Int32) (own_p1 own_z) (.int (0 : Int32)) ∧ Arv Z h x2 k2 .int (4 : Int32) (own_p2 own_z) (.int (0 : Int32)) ∧ Arv Z h x3 k3 .int zl (own_p3 own_z) (.int (0 : Int32))) := by
  intro ws
  refine MetFree.of_bodySF (plainFor_of_name pn_c1) hisR ?_
  intro p e s m args below meth c s₁ Bd hml0 hP hK
  obtain ⟨rfl, hZ, hh⟩ := hP
  have hx := Bd.exec
  have hby := Bd.bytes
  have hml : c.maxLocals = 5 := hml0
  have hown : s.vm.findClass "com/example/hueline/hueline/model/BigIntArray" = some m.cls := findClass_of_methodNamed Bd.named
  have hnm := (name_of_methodNamed Bd.named Bd.method).1
  have hlk : meth.locks = false := Bd.notSynchronized
  have X0 : Stand p l e ({ frames := 2, cells := 5, slots := 20, locals := 32 } : Room) s m #[(.ref a1), (.long q1), (.ref w1)] below meth c s₁ [] 0 0 := Stand.of_body Bd
  have e0 : s₁.heap = h0 := by rw [← hh, Bd.state]; rfl
  have N0 := Fr.nil n0
  refine own_body (Q := fun v h L => v = none ∧ Fr n0 L ∧ Keep h0 h [a1] ∧ Fld Z h a1 "com/example/hueline/hueline/model/BigIntArray" "layout" "Lcom/example/hueline/hueline/model/Pages;" (.ref w1) ∧ Fld Z h a1 "com/example/hueline/hueline/model/BigIntArray" "length" "J" (.long q1) ∧ Fld Z h a1 "com/example/hueline/hueline/model/BigIntArray" "flat" "[I" .null ∧ ∃ (x9 : Addr) (k9 : ClassId) (x0 : Addr) (k0 : ClassId) (x1 : Addr) (k1 : ClassId) (x2 : Addr) (k2 : ClassId) (x3 : Addr) (k3 : ClassId), n0 ≤ x9 ∧ h0.size ≤ x9 ∧ n0 ≤ x0 ∧ h0.size ≤ x0 ∧ n0 ≤ x1 ∧ h0.size ≤ x1 ∧ n0 ≤ x2 ∧ h0.size ≤ x2 ∧ n0 ≤ x3 ∧ h0.size ≤ x3 ∧ x9 ≠ x0 ∧ x9 ≠ x1 ∧ x9 ≠ x2 ∧ x9 ≠ x3 ∧ x0 ≠ x1 ∧ x0 ≠ x2 ∧ x0 ≠ x3 ∧ x1 ≠ x2 ∧ x1 ≠ x3 ∧ x2 ≠ x3 ∧ Fld Z h a1 "com/example/hueline/hueline/model/BigIntArray" "pages" "[[I" (.ref x9) ∧ Arv Z h x9 k9 (.array .int) (4 : Int32) [(.ref x0), (.ref x1), (.ref x2), (.ref x3)] .null ∧ Arv Z h x0 k0 .int (4 : Int32) (own_p0 own_z) (.int (0 : Int32)) ∧ Arv Z h x1 k1 .int (4 : Int32) (own_p1 own_z) (.int (0 : Int32)) ∧ Arv Z h x2 k2 .int (4 : Int32) (own_p2 own_z) (.int (0 : Int32)) ∧ Arv Z h x3 k3 .int zl (own_p3 own_z) (.int (0 : Int32))) ?_
  generalize hΦ : own_Fin s below _ _ _ = Φ
  refine own_cast (ef_2_RJR m a1 q1 w1) ?_
  have K0 := Keep.refl h0 [a1]
  show own_Run p e below Φ (s₁.setTop (mkF m 0 #[.val (.ref a1), .val (.long q1), .second, .val (.ref w1), .unset] []))
  refine own_go (fun t k => XS.aloadN X0.here hx rfl (hb hby d2_0) rfl rfl  k) ?_
  obtain ⟨T1, X1, e1, st1⟩ := initO X0 hx hZ hown (hw _ (List.mem_of_getElem? (i := 13) rfl)) (hw _ (List.mem_of_getElem? (i := 14) rfl)) (hw _ (List.mem_of_getElem? (i := 15) rfl)) e0 (g := (mkF m 1 #[.val (.ref a1), .val (.long q1), .second, .val (.ref w1), .unset] [(.ref a1)])) rfl (by rw [hml]; rfl) rfl (hb hby d2_1) (by decide) (W := 0) (by show 2 * 0 + _ ≤ _; exact Nat.le_of_eq rfl) (by decide)
  refine own_go st1 ?_
  refine own_go (fun t k => XS.aloadN X1.here hx rfl (hb hby d2_4) rfl rfl  k) ?_
  refine own_go (fun t k => XS.aloadN X1.here hx rfl (hb hby d2_5) rfl rfl  k) ?_
  obtain ⟨T2, h2, X2, e2, W2, st2⟩ := putF X1 hx hZ hown (host := "") (Or.inl (hw _ (List.mem_of_getElem? (i := 16) rfl))) Via.refl e1 H2 H1 (Or.inr ⟨(hw _ (List.mem_of_getElem? (i := 17) rfl)), rfl, hnm⟩) (hw _ (List.mem_of_getElem? (i := 2) rfl)) (ty := (.object "com/example/hueline/hueline/model/Pages")) (by decide) rfl rfl (g := (mkF m 6 #[.val (.ref a1), .val (.long q1), .second, .val (.ref w1), .unset] [(.ref w1), (.ref a1)])) rfl rfl (hb hby d2_6)
  refine own_go st2 ?_
  have G2 : Fld Z h2 a1 "com/example/hueline/hueline/model/BigIntArray" "layout" "Lcom/example/hueline/hueline/model/Pages;" (.ref w1) := H2.same W2
  have N2 := Fr.snoc X2 N0 H6
  show own_Run p e below Φ (T2.setTop (mkF m 9 #[.val (.ref a1), .val (.long q1), .second, .val (.ref w1), .unset] []))
  refine own_go (fun t k => XS.aloadN X2.here hx rfl (hb hby d2_9) rfl rfl  k) ?_
  refine own_go (fun t k => XS.aloadN X2.here hx rfl (hb hby d2_10) rfl rfl  k) ?_
  refine own_go (fun t k => XS.lloadN X2.here hx rfl (hb hby d2_11) rfl  k) ?_
  have F3 : Fld Z h2 w1 "com/example/hueline/hueline/model/Pages" "mask" "I" (.int (3 : Int32)) := (H9.other W2 (Or.inl H12))
  have F4 : Fld Z h2 w1 "com/example/hueline/hueline/model/Pages" "shift" "I" (.int (2 : Int32)) := (H10.other W2 (Or.inl H12))
  have F6 : Exa Z h2 w1 "com/example/hueline/hueline/model/Pages" := (H8.wr W2)
  refine own_callV X2 hx hZ (y := (⟨"com/example/hueline/hueline/model/Pages", "count", "(J)I"⟩ : MethodName)) (z := (⟨"com/example/hueline/hueline/model/Pages", "count", "(J)I"⟩ : MethodName)) (W := 1) (a := w1) (argsL := [(.long q1)]) (rest := [(.ref a1)]) hown (hw _ (List.mem_of_getElem? (i := 18) rfl)) (hw _ (List.mem_of_getElem? (i := 19) rfl)) (notFace_of_selects (args := #[]) (mvT hZ (hw _ (List.mem_of_getElem? (i := 21) rfl)))) (hw _ (List.mem_of_getElem? (i := 21) rfl)) (hw _ (List.mem_of_getElem? (i := 20) rfl)) (by decide) (own_bk (rm_cnt l Z a0 hw w1 q1 (3 : Int32) (2 : Int32) (4 : Int64) (4 : Int32) h2 n0 F3 F4 (by omega) (own_cn 3 (by decide) 2 (by decide) (by decide) ⟨by omega, by omega, by decide⟩ (by show _ = (4 : Int); omega)) (by decide) (by decide)) hZ (hw _ (List.mem_of_getElem? (i := 22) rfl)) (hw _ (List.mem_of_getElem? (i := 8) rfl)) (by decide) (by decide)) e2 F6 (g := (mkF m 12 #[.val (.ref a1), .val (.long q1), .second, .val (.ref w1), .unset] [(.long q1), (.ref w1), (.ref a1)])) rfl (by rw [hml]; rfl) (lenOf pd_3 rfl) rfl (by show 2 * 0 + _ ≤ _; exact Nat.le_of_eq rfl) (hb hby d2_12) (by decide) (by decide) (fun v5 T5 h5 L5 X5 e5 q5 => ?_)
  obtain ⟨rfl, M5, s5⟩ := q5
  replace e5 : T5.heap = h2 := e5.trans s5
  have N5 := Fr.app N2 M5
  have F8 : n0 ≤ h2.size := (Nat.le_trans H7 (Keep.of_wr W2).1)
  have F9 : Keep h0 h2 [a1] := (K0.wr W2 (Or.inl (List.mem_of_getElem? (i := 0) rfl)))
  have F10 : Exa Z h2 a1 "com/example/hueline/hueline/model/BigIntArray" := (H1.wr W2)
  refine own_newRA X5 hx hZ hown (ty := .int) rfl (hw _ (List.mem_of_getElem? (i := 28) rfl)) (hw _ (List.mem_of_getElem? (i := 29) rfl)) e5 (g := (mkF m 15 #[.val (.ref a1), .val (.long q1), .second, .val (.ref w1), .unset] [(.int (4 : Int32)), (.ref a1)])) rfl (hb hby d2_15) rfl (by decide) 4 (by decide) (by decide) (by decide) (by decide) 4 (fun T7 h7 k7 b7 X7 e7 E7 g7 V7 O7 => ?_)
  have ne_a1_b7 : a1 ≠ b7 := Nat.ne_of_lt (Nat.lt_of_lt_of_le F10.lt (Nat.le_of_eq g7.symm))
  have ne_w1_b7 : w1 ≠ b7 := Nat.ne_of_lt (Nat.lt_of_lt_of_le F6.lt (Nat.le_of_eq g7.symm))
  replace V7 : Arv Z h7 b7 k7 (.array .int) (4 : Int32) [.null, .null, .null, .null] .null := V7
  show own_Run p e below Φ (T7.setTop (mkF m 18 #[.val (.ref a1), .val (.long q1), .second, .val (.ref w1), .unset] [(.ref b7), (.ref a1)]))
  have F11 : Fld Z h7 a1 "com/example/hueline/hueline/model/BigIntArray" "pages" "[[I" .null := ((H3.other W2 (Or.inr (slot_ne (Or.inl (hw _ (List.mem_of_getElem? (i := 31) rfl))) (Or.inr (hw _ (List.mem_of_getElem? (i := 17) rfl))) (by decide) (t := (.array (.array .int))) (t' := (.object "com/example/hueline/hueline/model/Pages")) (by decide) (by decide)))).ext E7)
  have F12 : Exa Z h7 a1 "com/example/hueline/hueline/model/BigIntArray" := (F10.ext E7)
  obtain ⟨T13, h13, X13, e13, W13, st13⟩ := putF X7 hx hZ hown (host := "") (Or.inl (hw _ (List.mem_of_getElem? (i := 30) rfl))) Via.refl e7 F11 F12 (Or.inl (hw _ (List.mem_of_getElem? (i := 31) rfl))) (hw _ (List.mem_of_getElem? (i := 2) rfl)) (ty := (.array (.array .int))) (by decide) rfl rfl (g := (mkF m 18 #[.val (.ref a1), .val (.long q1), .second, .val (.ref w1), .unset] [(.ref b7), (.ref a1)])) rfl rfl (hb hby d2_18)
  refine own_go st13 ?_
  have G13 : Fld Z h13 a1 "com/example/hueline/hueline/model/BigIntArray" "pages" "[[I" (.ref b7) := F11.same W13
  have N13 := Fr.snoc X13 N5 H6
  refine own_go (fun t k => XS.aloadN X13.here hx rfl (hb hby d2_21) rfl rfl  k) ?_
  refine own_go (fun t k => XS.lloadN X13.here hx rfl (hb hby d2_22) rfl  k) ?_
  have F14 : Fld Z h13 a1 "com/example/hueline/hueline/model/BigIntArray" "length" "J" (.long (0 : Int64)) := (((H4.other W2 (Or.inr (slot_ne (Or.inl (hw _ (List.mem_of_getElem? (i := 33) rfl))) (Or.inr (hw _ (List.mem_of_getElem? (i := 17) rfl))) (by decide) (t := .long) (t' := (.object "com/example/hueline/hueline/model/Pages")) (by decide) (by decide)))).ext E7).other W13 (Or.inr (slot_ne (Or.inl (hw _ (List.mem_of_getElem? (i := 33) rfl))) (Or.inl (hw _ (List.mem_of_getElem? (i := 31) rfl))) (by decide) (t := .long) (t' := (.array (.array .int))) (by decide) (by decide))))
  have F15 : Exa Z h13 a1 "com/example/hueline/hueline/model/BigIntArray" := (F12.wr W13)
  obtain ⟨T16, h16, X16, e16, W16, st16⟩ := putF X13 hx hZ hown (host := "") (Or.inl (hw _ (List.mem_of_getElem? (i := 32) rfl))) Via.refl e13 F14 F15 (Or.inl (hw _ (List.mem_of_getElem? (i := 33) rfl))) (hw _ (List.mem_of_getElem? (i := 2) rfl)) (ty := .long) (by decide) rfl rfl (g := (mkF m 23 #[.val (.ref a1), .val (.long q1), .second, .val (.ref w1), .unset] [(.long q1), (.ref a1)])) rfl rfl (hb hby d2_23)
  refine own_go st16 ?_
  have G16 : Fld Z h16 a1 "com/example/hueline/hueline/model/BigIntArray" "length" "J" (.long q1) := F14.same W16
  have N16 := Fr.snoc X16 N13 H6
  refine own_go (fun t k => XS.iconst X16.here hx rfl (hb hby d2_26) k) ?_
  show own_Run p e below Φ (T16.setTop (mkF m 27 #[.val (.ref a1), .val (.long q1), .second, .val (.ref w1), .unset] [(.int (0 : Int32))]))
  refine own_go (fun t k => XS.istore X16.here hx rfl (hb hby d2_27) rfl (l' := #[.val (.ref a1), .val (.long q1), .second, .val (.ref w1), .val (.int (0 : Int32))]) rfl k) ?_
  refine own_go (fun t k => XS.iload X16.here hx rfl (hb hby d2_29) rfl  k) ?_
  refine own_go (fun t k => XS.aloadN X16.here hx rfl (hb hby d2_31) rfl rfl  k) ?_
  have F17 : Fld Z h16 a1 "com/example/hueline/hueline/model/BigIntArray" "pages" "[[I" (.ref b7) := (G13.other W16 (Or.inr (slot_ne (Or.inl (hw _ (List.mem_of_getElem? (i := 31) rfl))) (Or.inl (hw _ (List.mem_of_getElem? (i := 33) rfl))) (by decide) (t := (.array (.array .int))) (t' := .long) (by decide) (by decide))))
  obtain ⟨T18, X18, e18, st18⟩ := getF X16 hx hZ hown (host := "") (Or.inl (hw _ (List.mem_of_getElem? (i := 30) rfl))) Via.refl e16 F17 (g := (mkF m 32 #[.val (.ref a1), .val (.long q1), .second, .val (.ref w1), .val (.int (0 : Int32))] [(.ref a1), (.int (0 : Int32))])) rfl rfl (hb hby d2_32)
  refine own_go st18 ?_
  have F19 : Arv Z h16 b7 k7 (.array .int) (4 : Int32) [.null, .null, .null, .null] .null := ((V7.other W13 (Ne.symm ne_a1_b7)).other W16 (Ne.symm ne_a1_b7))
  refine own_arrlen X18 hx hZ e18 F19 (g := (mkF m 35 #[.val (.ref a1), .val (.long q1), .second, .val (.ref w1), .val (.int (0 : Int32))] [(.ref b7), (.int (0 : Int32))])) rfl rfl (hb hby d2_35) ?_
  show own_Run p e below Φ (T18.setTop (mkF m 36 #[.val (.ref a1), .val (.long q1), .second, .val (.ref w1), .val (.int (0 : Int32))] [(.int (4 : Int32)), (.int (0 : Int32))]))
  refine own_go (fun t k => XS.icmpNo X18.here hx rfl (hb hby d2_36) rfl (tlt (by decide : (0 : Int32) < (4 : Int32))).2.1 k) ?_
  refine own_go (fun t k => XS.aloadN X18.here hx rfl (hb hby d2_39) rfl rfl  k) ?_
  obtain ⟨T20, X20, e20, st20⟩ := getF X18 hx hZ hown (host := "") (Or.inl (hw _ (List.mem_of_getElem? (i := 30) rfl))) Via.refl e18 F17 (g := (mkF m 40 #[.val (.ref a1), .val (.long q1), .second, .val (.ref w1), .val (.int (0 : Int32))] [(.ref a1)])) rfl rfl (hb hby d2_40)
  refine own_go st20 ?_
  refine own_go (fun t k => XS.iload X20.here hx rfl (hb hby d2_43) rfl  k) ?_
  refine own_go (fun t k => XS.aloadN X20.here hx rfl (hb hby d2_45) rfl rfl  k) ?_
  show own_Run p e below Φ (T20.setTop (mkF m 46 #[.val (.ref a1), .val (.long q1), .second, .val (.ref w1), .val (.int (0 : Int32))] [(.ref w1), (.int (0 : Int32)), (.ref b7)]))
  refine own_go (fun t k => XS.lloadN X20.here hx rfl (hb hby d2_46) rfl  k) ?_
  refine own_go (fun t k => XS.iload X20.here hx rfl (hb hby d2_47) rfl  k) ?_
  have F21 : Fld Z h16 w1 "com/example/hueline/hueline/model/Pages" "length" "I" (.int (4 : Int32)) := ((((H11.other W2 (Or.inl H12)).ext E7).other W13 (Or.inl H12)).other W16 (Or.inl H12))
  have F22 : Fld Z h16 w1 "com/example/hueline/hueline/model/Pages" "shift" "I" (.int (2 : Int32)) := (((F4.ext E7).other W13 (Or.inl H12)).other W16 (Or.inl H12))
  have F24 : Exa Z h16 w1 "com/example/hueline/hueline/model/Pages" := (((F6.ext E7).wr W13).wr W16)
  refine own_callV X20 hx hZ (y := (⟨"com/example/hueline/hueline/model/Pages", "length", "(JI)I"⟩ : MethodName)) (z := (⟨"com/example/hueline/hueline/model/Pages", "length", "(JI)I"⟩ : MethodName)) (W := 2) (a := w1) (argsL := [(.long q1), (.int (0 : Int32))]) (rest := [(.int (0 : Int32)), (.ref b7)]) hown (hw _ (List.mem_of_getElem? (i := 34) rfl)) (hw _ (List.mem_of_getElem? (i := 35) rfl)) (notFace_of_selects (args := #[]) (mvT hZ (hw _ (List.mem_of_getElem? (i := 37) rfl)))) (hw _ (List.mem_of_getElem? (i := 37) rfl)) (hw _ (List.mem_of_getElem? (i := 36) rfl)) (by decide) (own_bk (rm_len l Z a0 hw w1 q1 (0 : Int32) (4 : Int32) (2 : Int32) (4 : Int32) h16 n0 F21 F22 (own_ln 0 (by decide) 4 (by decide) (by omega) (by omega) (by omega) (by omega) (by first | exact Or.inl ⟨by omega, by decide⟩ | exact Or.inr ⟨by omega, by omega⟩))) hZ (hw _ (List.mem_of_getElem? (i := 38) rfl)) (hw _ (List.mem_of_getElem? (i := 8) rfl)) (by decide) (by decide)) e20 F24 (g := (mkF m 49 #[.val (.ref a1), .val (.long q1), .second, .val (.ref w1), .val (.int (0 : Int32))] [(.int (0 : Int32)), (.long q1), (.ref w1), (.int (0 : Int32)), (.ref b7)])) rfl (by rw [hml]; rfl) (lenOf pd_4 rfl) rfl (by show 2 * 0 + _ ≤ _; exact Nat.le_of_eq rfl) (hb hby d2_49) (by decide) (by decide) (fun v23 T23 h23 L23 X23 e23 q23 => ?_)
  obtain ⟨rfl, M23, s23⟩ := q23
  replace e23 : T23.heap = h16 := e23.trans s23
  have N23 := Fr.app N16 M23
  have F26 : n0 ≤ h16.size := (Nat.le_trans (Nat.le_trans (Nat.le_trans F8 E7.1) (Keep.of_wr W13).1) (Keep.of_wr W16).1)
  have F27 : Keep h0 h16 [a1] := (((F9.ext E7).wr W13 (Or.inl (List.mem_of_getElem? (i := 0) rfl))).wr W16 (Or.inl (List.mem_of_getElem? (i := 0) rfl)))
  have F28 : Exa Z h16 a1 "com/example/hueline/hueline/model/BigIntArray" := (F15.wr W16)
  refine own_newPE X23 hx hZ (hw _ (List.mem_of_getElem? (i := 45) rfl)) e23 (g := (mkF m 52 #[.val (.ref a1), .val (.long q1), .second, .val (.ref w1), .val (.int (0 : Int32))] [(.int (4 : Int32)), (.int (0 : Int32)), (.ref b7)])) rfl (hb hby d2_52) rfl (by decide) 4 (by decide) (by decide) (by decide) (by decide) 4 "[I" rfl (fun T25 h25 k25 b25 X25 e25 E25 g25 V25 Y25 => ?_)
  have ne_a1_b25 : a1 ≠ b25 := Nat.ne_of_lt (Nat.lt_of_lt_of_le F28.lt (Nat.le_of_eq g25.symm))
  have ne_w1_b25 : w1 ≠ b25 := Nat.ne_of_lt (Nat.lt_of_lt_of_le F24.lt (Nat.le_of_eq g25.symm))
  have ne_b7_b25 : b7 ≠ b25 := Nat.ne_of_lt (Nat.lt_of_lt_of_le F19.lt (Nat.le_of_eq g25.symm))
  replace V25 : Arv Z h25 b25 k25 .int (4 : Int32) [(.int (0 : Int32)), (.int (0 : Int32)), (.int (0 : Int32)), (.int (0 : Int32))] (.int (0 : Int32)) := V25
  have F30 : Arv Z h25 b7 k7 (.array .int) (4 : Int32) [.null, .null, .null, .null] .null := (F19.ext E25)
  refine own_aastore X25 hx hZ e25 F30 O7 Y25 (hw _ (List.mem_of_getElem? (i := 46) rfl)) (j := (0 : Int32)) ⟨by decide, by decide⟩ 0 rfl (Nat.le_of_ble_eq_true rfl) (g := (mkF m 54 #[.val (.ref a1), .val (.long q1), .second, .val (.ref w1), .val (.int (0 : Int32))] [(.ref b25), (.int (0 : Int32)), (.ref b7)])) rfl rfl (hb hby d2_54) (fun T31 h31 X31 e31 W31 V31 => ?_)
  replace V31 : Arv Z h31 b7 k7 (.array .int) (4 : Int32) [(.ref b25), .null, .null, .null] .null := V31
  have N31 := Fr.snoc X31 N23 (Nat.le_trans F8 (Nat.le_of_eq g7.symm))
  show own_Run p e below Φ (T31.setTop (mkF m 55 #[.val (.ref a1), .val (.long q1), .second, .val (.ref w1), .val (.int (0 : Int32))] []))
  refine own_go (fun t k => XS.iinc X31.here hx rfl (hb hby d2_55) rfl (l' := #[.val (.ref a1), .val (.long q1), .second, .val (.ref w1), .val (.int ((0 : Int32) + (1 : Int32)))]) rfl k) ?_
  show own_Run p e below Φ (T31.setTop (mkF m 58 #[.val (.ref a1), .val (.long q1), .second, .val (.ref w1), .val (.int ((0 : Int32) + (1 : Int32)))] []))
  rw [show ((0 : Int32) + (1 : Int32)) = (1 : Int32) from by decide]
  show own_Run p e below Φ (T31.setTop (mkF m 58 #[.val (.ref a1), .val (.long q1), .second, .val (.ref w1), .val (.int (1 : Int32))] []))
  refine own_go (fun t k => XS.goto X31.here hx rfl (pc0 := 58) (pc' := 29) rfl (hb hby d2_58) (by decide) (by decide) k) ?_
  refine own_go (fun t k => XS.iload X31.here hx rfl (hb hby d2_29) rfl  k) ?_
  refine own_go (fun t k => XS.aloadN X31.here hx rfl (hb hby d2_31) rfl rfl  k) ?_
  have F32 : Fld Z h31 a1 "com/example/hueline/hueline/model/BigIntArray" "pages" "[[I" (.ref b7) := ((F17.ext E25).other W31 (Or.inl ne_a1_b7))
  obtain ⟨T33, X33, e33, st33⟩ := getF X31 hx hZ hown (host := "") (Or.inl (hw _ (List.mem_of_getElem? (i := 30) rfl))) Via.refl e31 F32 (g := (mkF m 32 #[.val (.ref a1), .val (.long q1), .second, .val (.ref w1), .val (.int (1 : Int32))] [(.ref a1), (.int (1 : Int32))])) rfl rfl (hb hby d2_32)
  refine own_go st33 ?_
  refine own_arrlen X33 hx hZ e33 V31 (g := (mkF m 35 #[.val (.ref a1), .val (.long q1), .second, .val (.ref w1), .val (.int (1 : Int32))] [(.ref b7), (.int (1 : Int32))])) rfl rfl (hb hby d2_35) ?_
  show own_Run p e below Φ (T33.setTop (mkF m 36 #[.val (.ref a1), .val (.long q1), .second, .val (.ref w1), .val (.int (1 : Int32))] [(.int (4 : Int32)), (.int (1 : Int32))]))
  refine own_go (fun t k => XS.icmpNo X33.here hx rfl (hb hby d2_36) rfl (tlt (by decide : (1 : Int32) < (4 : Int32))).2.1 k) ?_
  refine own_go (fun t k => XS.aloadN X33.here hx rfl (hb hby d2_39) rfl rfl  k) ?_
  obtain ⟨T34, X34, e34, st34⟩ := getF X33 hx hZ hown (host := "") (Or.inl (hw _ (List.mem_of_getElem? (i := 30) rfl))) Via.refl e33 F32 (g := (mkF m 40 #[.val (.ref a1), .val (.long q1), .second, .val (.ref w1), .val (.int (1 : Int32))] [(.ref a1)])) rfl rfl (hb hby d2_40)
  refine own_go st34 ?_
  refine own_go (fun t k => XS.iload X34.here hx rfl (hb hby d2_43) rfl  k) ?_
  refine own_go (fun t k => XS.aloadN X34.here hx rfl (hb hby d2_45) rfl rfl  k) ?_
  show own_Run p e below Φ (T34.setTop (mkF m 46 #[.val (.ref a1), .val (.long q1), .second, .val (.ref w1), .val (.int (1 : Int32))] [(.ref w1), (.int (1 : Int32)), (.ref b7)]))
  refine own_go (fun t k => XS.lloadN X34.here hx rfl (hb hby d2_46) rfl  k) ?_
  refine own_go (fun t k => XS.iload X34.here hx rfl (hb hby d2_47) rfl  k) ?_
  have F35 : Fld Z h31 w1 "com/example/hueline/hueline/model/Pages" "length" "I" (.int (4 : Int32)) := ((F21.ext E25).other W31 (Or.inl ne_w1_b7))
  have F36 : Fld Z h31 w1 "com/example/hueline/hueline/model/Pages" "shift" "I" (.int (2 : Int32)) := ((F22.ext E25).other W31 (Or.inl ne_w1_b7))
  have F38 : Exa Z h31 w1 "com/example/hueline/hueline/model/Pages" := ((F24.ext E25).wr W31)
  refine own_callV X34 hx hZ (y := (⟨"com/example/hueline/hueline/model/Pages", "length", "(JI)I"⟩ : MethodName)) (z := (⟨"com/example/hueline/hueline/model/Pages", "length", "(JI)I"⟩ : MethodName)) (W := 2) (a := w1) (argsL := [(.long q1), (.int (1 : Int32))]) (rest := [(.int (1 : Int32)), (.ref b7)]) hown (hw _ (List.mem_of_getElem? (i := 34) rfl)) (hw _ (List.mem_of_getElem? (i := 35) rfl)) (notFace_of_selects (args := #[]) (mvT hZ (hw _ (List.mem_of_getElem? (i := 37) rfl)))) (hw _ (List.mem_of_getElem? (i := 37) rfl)) (hw _ (List.mem_of_getElem? (i := 36) rfl)) (by decide) (own_bk (rm_len l Z a0 hw w1 q1 (1 : Int32) (4 : Int32) (2 : Int32) (4 : Int32) h31 n0 F35 F36 (own_ln 4 (by decide) 4 (by decide) (by omega) (by omega) (by omega) (by omega) (by first | exact Or.inl ⟨by omega, by decide⟩ | exact Or.inr ⟨by omega, by omega⟩))) hZ (hw _ (List.mem_of_getElem? (i := 38) rfl)) (hw _ (List.mem_of_getElem? (i := 8) rfl)) (by decide) (by decide)) e34 F38 (g := (mkF m 49 #[.val (.ref a1), .val (.long q1), .second, .val (.ref w1), .val (.int (1 : Int32))] [(.int (1 : Int32)), (.long q1), (.ref w1), (.int (1 : Int32)), (.ref b7)])) rfl (by rw [hml]; rfl) (lenOf pd_4 rfl) rfl (by show 2 * 0 + _ ≤ _; exact Nat.le_of_eq rfl) (hb hby d2_49) (by decide) (by decide) (fun v37 T37 h37 L37 X37 e37 q37 => ?_)
  obtain ⟨rfl, M37, s37⟩ := q37
  replace e37 : T37.heap = h31 := e37.trans s37
  have N37 := Fr.app N31 M37
  have F40 : n0 ≤ h31.size := (Nat.le_trans (Nat.le_trans F26 E25.1) (Keep.of_wr W31).1)
  have F41 : Keep h0 h31 [a1] := ((F27.ext E25).wr W31 (Or.inr (Nat.le_trans F9.1 (Nat.le_of_eq g7.symm))))
  have F42 : Exa Z h31 a1 "com/example/hueline/hueline/model/BigIntArray" := ((F28.ext E25).wr W31)
  have F43 : Arv Z h31 b25 k25 .int (4 : Int32) [(.int (0 : Int32)), (.int (0 : Int32)), (.int (0 : Int32)), (.int (0 : Int32))] (.int (0 : Int32)) := (V25.other W31 (Ne.symm ne_b7_b25))
  refine own_newPE X37 hx hZ (hw _ (List.mem_of_getElem? (i := 45) rfl)) e37 (g := (mkF m 52 #[.val (.ref a1), .val (.long q1), .second, .val (.ref w1), .val (.int (1 : Int32))] [(.int (4 : Int32)), (.int (1 : Int32)), (.ref b7)])) rfl (hb hby d2_52) rfl (by decide) 4 (by decide) (by decide) (by decide) (by decide) 4 "[I" rfl (fun T39 h39 k39 b39 X39 e39 E39 g39 V39 Y39 => ?_)
  have ne_a1_b39 : a1 ≠ b39 := Nat.ne_of_lt (Nat.lt_of_lt_of_le F42.lt (Nat.le_of_eq g39.symm))
  have ne_w1_b39 : w1 ≠ b39 := Nat.ne_of_lt (Nat.lt_of_lt_of_le F38.lt (Nat.le_of_eq g39.symm))
  have ne_b7_b39 : b7 ≠ b39 := Nat.ne_of_lt (Nat.lt_of_lt_of_le V31.lt (Nat.le_of_eq g39.symm))
  have ne_b25_b39 : b25 ≠ b39 := Nat.ne_of_lt (Nat.lt_of_lt_of_le F43.lt (Nat.le_of_eq g39.symm))
  replace V39 : Arv Z h39 b39 k39 .int (4 : Int32) [(.int (0 : Int32)), (.int (0 : Int32)), (.int (0 : Int32)), (.int (0 : Int32))] (.int (0 : Int32)) := V39
  have F45 : Arv Z h39 b7 k7 (.array .int) (4 : Int32) [(.ref b25), .null, .null, .null] .null := (V31.ext E39)
  refine own_aastore X39 hx hZ e39 F45 O7 Y39 (hw _ (List.mem_of_getElem? (i := 46) rfl)) (j := (1 : Int32)) ⟨by decide, by decide⟩ 1 rfl (Nat.le_of_ble_eq_true rfl) (g := (mkF m 54 #[.val (.ref a1), .val (.long q1), .second, .val (.ref w1), .val (.int (1 : Int32))] [(.ref b39), (.int (1 : Int32)), (.ref b7)])) rfl rfl (hb hby d2_54) (fun T46 h46 X46 e46 W46 V46 => ?_)
  replace V46 : Arv Z h46 b7 k7 (.array .int) (4 : Int32) [(.ref b25), (.ref b39), .null, .null] .null := V46
  have N46 := Fr.snoc X46 N37 (Nat.le_trans F8 (Nat.le_of_eq g7.symm))
  show own_Run p e below Φ (T46.setTop (mkF m 55 #[.val (.ref a1), .val (.long q1), .second, .val (.ref w1), .val (.int (1 : Int32))] []))
  refine own_go (fun t k => XS.iinc X46.here hx rfl (hb hby d2_55) rfl (l' := #[.val (.ref a1), .val (.long q1), .second, .val (.ref w1), .val (.int ((1 : Int32) + (1 : Int32)))]) rfl k) ?_
  show own_Run p e below Φ (T46.setTop (mkF m 58 #[.val (.ref a1), .val (.long q1), .second, .val (.ref w1), .val (.int ((1 : Int32) + (1 : Int32)))] []))
  rw [show ((1 : Int32) + (1 : Int32)) = (2 : Int32) from by decide]
  show own_Run p e below Φ (T46.setTop (mkF m 58 #[.val (.ref a1), .val (.long q1), .second, .val (.ref w1), .val (.int (2 : Int32))] []))
  refine own_go (fun t k => XS.goto X46.here hx rfl (pc0 := 58) (pc' := 29) rfl (hb hby d2_58) (by decide) (by decide) k) ?_
  refine own_go (fun t k => XS.iload X46.here hx rfl (hb hby d2_29) rfl  k) ?_
  refine own_go (fun t k => XS.aloadN X46.here hx rfl (hb hby d2_31) rfl rfl  k) ?_
  have F47 : Fld Z h46 a1 "com/example/hueline/hueline/model/BigIntArray" "pages" "[[I" (.ref b7) := ((F32.ext E39).other W46 (Or.inl ne_a1_b7))
  obtain ⟨T48, X48, e48, st48⟩ := getF X46 hx hZ hown (host := "") (Or.inl (hw _ (List.mem_of_getElem? (i := 30) rfl))) Via.refl e46 F47 (g := (mkF m 32 #[.val (.ref a1), .val (.long q1), .second, .val (.ref w1), .val (.int (2 : Int32))] [(.ref a1), (.int (2 : Int32))])) rfl rfl (hb hby d2_32)
  refine own_go st48 ?_
  refine own_arrlen X48 hx hZ e48 V46 (g := (mkF m 35 #[.val (.ref a1), .val (.long q1), .second, .val (.ref w1), .val (.int (2 : Int32))] [(.ref b7), (.int (2 : Int32))])) rfl rfl (hb hby d2_35) ?_
  show own_Run p e below Φ (T48.setTop (mkF m 36 #[.val (.ref a1), .val (.long q1), .second, .val (.ref w1), .val (.int (2 : Int32))] [(.int (4 : Int32)), (.int (2 : Int32))]))
  refine own_go (fun t k => XS.icmpNo X48.here hx rfl (hb hby d2_36) rfl (tlt (by decide : (2 : Int32) < (4 : Int32))).2.1 k) ?_
  refine own_go (fun t k => XS.aloadN X48.here hx rfl (hb hby d2_39) rfl rfl  k) ?_
  obtain ⟨T49, X49, e49, st49⟩ := getF X48 hx hZ hown (host := "") (Or.inl (hw _ (List.mem_of_getElem? (i := 30) rfl))) Via.refl e48 F47 (g := (mkF m 40 #[.val (.ref a1), .val (.long q1), .second, .val (.ref w1), .val (.int (2 : Int32))] [(.ref a1)])) rfl rfl (hb hby d2_40)
  refine own_go st49 ?_
  refine own_go (fun t k => XS.iload X49.here hx rfl (hb hby d2_43) rfl  k) ?_
  refine own_go (fun t k => XS.aloadN X49.here hx rfl (hb hby d2_45) rfl rfl  k) ?_
  show own_Run p e below Φ (T49.setTop (mkF m 46 #[.val (.ref a1), .val (.long q1), .second, .val (.ref w1), .val (.int (2 : Int32))] [(.ref w1), (.int (2 : Int32)), (.ref b7)]))
  refine own_go (fun t k => XS.lloadN X49.here hx rfl (hb hby d2_46) rfl  k) ?_
  refine own_go (fun t k => XS.iload X49.here hx rfl (hb hby d2_47) rfl  k) ?_
  have F50 : Fld Z h46 w1 "com/example/hueline/hueline/model/Pages" "length" "I" (.int (4 : Int32)) := ((F35.ext E39).other W46 (Or.inl ne_w1_b7))
  have F51 : Fld Z h46 w1 "com/example/hueline/hueline/model/Pages" "shift" "I" (.int (2 : Int32)) := ((F36.ext E39).other W46 (Or.inl ne_w1_b7))
  have F53 : Exa Z h46 w1 "com/example/hueline/hueline/model/Pages" := ((F38.ext E39).wr W46)
  refine own_callV X49 hx hZ (y := (⟨"com/example/hueline/hueline/model/Pages", "length", "(JI)I"⟩ : MethodName)) (z := (⟨"com/example/hueline/hueline/model/Pages", "length", "(JI)I"⟩ : MethodName)) (W := 2) (a := w1) (argsL := [(.long q1), (.int (2 : Int32))]) (rest := [(.int (2 : Int32)), (.ref b7)]) hown (hw _ (List.mem_of_getElem? (i := 34) rfl)) (hw _ (List.mem_of_getElem? (i := 35) rfl)) (notFace_of_selects (args := #[]) (mvT hZ (hw _ (List.mem_of_getElem? (i := 37) rfl)))) (hw _ (List.mem_of_getElem? (i := 37) rfl)) (hw _ (List.mem_of_getElem? (i := 36) rfl)) (by decide) (own_bk (rm_len l Z a0 hw w1 q1 (2 : Int32) (4 : Int32) (2 : Int32) (4 : Int32) h46 n0 F50 F51 (own_ln 8 (by decide) 4 (by decide) (by omega) (by omega) (by omega) (by omega) (by first | exact Or.inl ⟨by omega, by decide⟩ | exact Or.inr ⟨by omega, by omega⟩))) hZ (hw _ (List.mem_of_getElem? (i := 38) rfl)) (hw _ (List.mem_of_getElem? (i := 8) rfl)) (by decide) (by decide)) e49 F53 (g := (mkF m 49 #[.val (.ref a1), .val (.long q1), .second, .val (.ref w1), .val (.int (2 : Int32))] [(.int (2 : Int32)), (.long q1), (.ref w1), (.int (2 : Int32)), (.ref b7)])) rfl (by rw [hml]; rfl) (lenOf pd_4 rfl) rfl (by show 2 * 0 + _ ≤ _; exact Nat.le_of_eq rfl) (hb hby d2_49) (by decide) (by decide) (fun v52 T52 h52 L52 X52 e52 q52 => ?_)
  obtain ⟨rfl, M52, s52⟩ := q52
  replace e52 : T52.heap = h46 := e52.trans s52
  have N52 := Fr.app N46 M52
  have F55 : n0 ≤ h46.size := (Nat.le_trans (Nat.le_trans F40 E39.1) (Keep.of_wr W46).1)
  have F56 : Keep h0 h46 [a1] := ((F41.ext E39).wr W46 (Or.inr (Nat.le_trans F9.1 (Nat.le_of_eq g7.symm))))
  have F57 : Exa Z h46 a1 "com/example/hueline/hueline/model/BigIntArray" := ((F42.ext E39).wr W46)
  have F58 : Arv Z h46 b25 k25 .int (4 : Int32) [(.int (0 : Int32)), (.int (0 : Int32)), (.int (0 : Int32)), (.int (0 : Int32))] (.int (0 : Int32)) := ((F43.ext E39).other W46 (Ne.symm ne_b7_b25))
  have F59 : Arv Z h46 b39 k39 .int (4 : Int32) [(.int (0 : Int32)), (.int (0 : Int32)), (.int (0 : Int32)), (.int (0 : Int32))] (.int (0 : Int32)) := (V39.other W46 (Ne.symm ne_b7_b39))
  refine own_newPE X52 hx hZ (hw _ (List.mem_of_getElem? (i := 45) rfl)) e52 (g := (mkF m 52 #[.val (.ref a1), .val (.long q1), .second, .val (.ref w1), .val (.int (2 : Int32))] [(.int (4 : Int32)), (.int (2 : Int32)), (.ref b7)])) rfl (hb hby d2_52) rfl (by decide) 4 (by decide) (by decide) (by decide) (by decide) 4 "[I" rfl (fun T54 h54 k54 b54 X54 e54 E54 g54 V54 Y54 => ?_)
  have ne_a1_b54 : a1 ≠ b54 := Nat.ne_of_lt (Nat.lt_of_lt_of_le F57.lt (Nat.le_of_eq g54.symm))
  have ne_w1_b54 : w1 ≠ b54 := Nat.ne_of_lt (Nat.lt_of_lt_of_le F53.lt (Nat.le_of_eq g54.symm))
  have ne_b7_b54 : b7 ≠ b54 := Nat.ne_of_lt (Nat.lt_of_lt_of_le V46.lt (Nat.le_of_eq g54.symm))
  have ne_b25_b54 : b25 ≠ b54 := Nat.ne_of_lt (Nat.lt_of_lt_of_le F58.lt (Nat.le_of_eq g54.symm))
  have ne_b39_b54 : b39 ≠ b54 := Nat.ne_of_lt (Nat.lt_of_lt_of_le F59.lt (Nat.le_of_eq g54.symm))
  replace V54 : Arv Z h54 b54 k54 .int (4 : Int32) [(.int (0 : Int32)), (.int (0 : Int32)), (.int (0 : Int32)), (.int (0 : Int32))] (.int (0 : Int32)) := V54
  have F61 : Arv Z h54 b7 k7 (.array .int) (4 : Int32) [(.ref b25), (.ref b39), .null, .null] .null := (V46.ext E54)
  refine own_aastore X54 hx hZ e54 F61 O7 Y54 (hw _ (List.mem_of_getElem? (i := 46) rfl)) (j := (2 : Int32)) ⟨by decide, by decide⟩ 2 rfl (Nat.le_of_ble_eq_true rfl) (g := (mkF m 54 #[.val (.ref a1), .val (.long q1), .second, .val (.ref w1), .val (.int (2 : Int32))] [(.ref b54), (.int (2 : Int32)), (.ref b7)])) rfl rfl (hb hby d2_54) (fun T62 h62 X62 e62 W62 V62 => ?_)
  replace V62 : Arv Z h62 b7 k7 (.array .int) (4 : Int32) [(.ref b25), (.ref b39), (.ref b54), .null] .null := V62
  have N62 := Fr.snoc X62 N52 (Nat.le_trans F8 (Nat.le_of_eq g7.symm))
  show own_Run p e below Φ (T62.setTop (mkF m 55 #[.val (.ref a1), .val (.long q1), .second, .val (.ref w1), .val (.int (2 : Int32))] []))
  refine own_go (fun t k => XS.iinc X62.here hx rfl (hb hby d2_55) rfl (l' := #[.val (.ref a1), .val (.long q1), .second, .val (.ref w1), .val (.int ((2 : Int32) + (1 : Int32)))]) rfl k) ?_
  show own_Run p e below Φ (T62.setTop (mkF m 58 #[.val (.ref a1), .val (.long q1), .second, .val (.ref w1), .val (.int ((2 : Int32) + (1 : Int32)))] []))
  rw [show ((2 : Int32) + (1 : Int32)) = (3 : Int32) from by decide]
  show own_Run p e below Φ (T62.setTop (mkF m 58 #[.val (.ref a1), .val (.long q1), .second, .val (.ref w1), .val (.int (3 : Int32))] []))
  refine own_go (fun t k => XS.goto X62.here hx rfl (pc0 := 58) (pc' := 29) rfl (hb hby d2_58) (by decide) (by decide) k) ?_
  refine own_go (fun t k => XS.iload X62.here hx rfl (hb hby d2_29) rfl  k) ?_
  refine own_go (fun t k => XS.aloadN X62.here hx rfl (hb hby d2_31) rfl rfl  k) ?_
  have F63 : Fld Z h62 a1 "com/example/hueline/hueline/model/BigIntArray" "pages" "[[I" (.ref b7) := ((F47.ext E54).other W62 (Or.inl ne_a1_b7))
  obtain ⟨T64, X64, e64, st64⟩ := getF X62 hx hZ hown (host := "") (Or.inl (hw _ (List.mem_of_getElem? (i := 30) rfl))) Via.refl e62 F63 (g := (mkF m 32 #[.val (.ref a1), .val (.long q1), .second, .val (.ref w1), .val (.int (3 : Int32))] [(.ref a1), (.int (3 : Int32))])) rfl rfl (hb hby d2_32)
  refine own_go st64 ?_
  refine own_arrlen X64 hx hZ e64 V62 (g := (mkF m 35 #[.val (.ref a1), .val (.long q1), .second, .val (.ref w1), .val (.int (3 : Int32))] [(.ref b7), (.int (3 : Int32))])) rfl rfl (hb hby d2_35) ?_
  show own_Run p e below Φ (T64.setTop (mkF m 36 #[.val (.ref a1), .val (.long q1), .second, .val (.ref w1), .val (.int (3 : Int32))] [(.int (4 : Int32)), (.int (3 : Int32))]))
  refine own_go (fun t k => XS.icmpNo X64.here hx rfl (hb hby d2_36) rfl (tlt (by decide : (3 : Int32) < (4 : Int32))).2.1 k) ?_
  refine own_go (fun t k => XS.aloadN X64.here hx rfl (hb hby d2_39) rfl rfl  k) ?_
  obtain ⟨T65, X65, e65, st65⟩ := getF X64 hx hZ hown (host := "") (Or.inl (hw _ (List.mem_of_getElem? (i := 30) rfl))) Via.refl e64 F63 (g := (mkF m 40 #[.val (.ref a1), .val (.long q1), .second, .val (.ref w1), .val (.int (3 : Int32))] [(.ref a1)])) rfl rfl (hb hby d2_40)
  refine own_go st65 ?_
  refine own_go (fun t k => XS.iload X65.here hx rfl (hb hby d2_43) rfl  k) ?_
  refine own_go (fun t k => XS.aloadN X65.here hx rfl (hb hby d2_45) rfl rfl  k) ?_
  show own_Run p e below Φ (T65.setTop (mkF m 46 #[.val (.ref a1), .val (.long q1), .second, .val (.ref w1), .val (.int (3 : Int32))] [(.ref w1), (.int (3 : Int32)), (.ref b7)]))
  refine own_go (fun t k => XS.lloadN X65.here hx rfl (hb hby d2_46) rfl  k) ?_
  refine own_go (fun t k => XS.iload X65.here hx rfl (hb hby d2_47) rfl  k) ?_
  have F66 : Fld Z h62 w1 "com/example/hueline/hueline/model/Pages" "length" "I" (.int (4 : Int32)) := ((F50.ext E54).other W62 (Or.inl ne_w1_b7))
  have F67 : Fld Z h62 w1 "com/example/hueline/hueline/model/Pages" "shift" "I" (.int (2 : Int32)) := ((F51.ext E54).other W62 (Or.inl ne_w1_b7))
  have F69 : Exa Z h62 w1 "com/example/hueline/hueline/model/Pages" := ((F53.ext E54).wr W62)
  refine own_callV X65 hx hZ (y := (⟨"com/example/hueline/hueline/model/Pages", "length", "(JI)I"⟩ : MethodName)) (z := (⟨"com/example/hueline/hueline/model/Pages", "length", "(JI)I"⟩ : MethodName)) (W := 2) (a := w1) (argsL := [(.long q1), (.int (3 : Int32))]) (rest := [(.int (3 : Int32)), (.ref b7)]) hown (hw _ (List.mem_of_getElem? (i := 34) rfl)) (hw _ (List.mem_of_getElem? (i := 35) rfl)) (notFace_of_selects (args := #[]) (mvT hZ (hw _ (List.mem_of_getElem? (i := 37) rfl)))) (hw _ (List.mem_of_getElem? (i := 37) rfl)) (hw _ (List.mem_of_getElem? (i := 36) rfl)) (by decide) (own_bk (rm_len l Z a0 hw w1 q1 (3 : Int32) (4 : Int32) (2 : Int32) zl h62 n0 F66 F67 (own_ln 12 (by decide) 4 (by decide) (by omega) (by omega) (by omega) (by omega) (by first | exact Or.inl ⟨by omega, by decide⟩ | exact Or.inr ⟨by omega, by omega⟩))) hZ (hw _ (List.mem_of_getElem? (i := 38) rfl)) (hw _ (List.mem_of_getElem? (i := 8) rfl)) (by decide) (by decide)) e65 F69 (g := (mkF m 49 #[.val (.ref a1), .val (.long q1), .second, .val (.ref w1), .val (.int (3 : Int32))] [(.int (3 : Int32)), (.long q1), (.ref w1), (.int (3 : Int32)), (.ref b7)])) rfl (by rw [hml]; rfl) (lenOf pd_4 rfl) rfl (by show 2 * 0 + _ ≤ _; exact Nat.le_of_eq rfl) (hb hby d2_49) (by decide) (by decide) (fun v68 T68 h68 L68 X68 e68 q68 => ?_)
  obtain ⟨rfl, M68, s68⟩ := q68
  replace e68 : T68.heap = h62 := e68.trans s68
  have N68 := Fr.app N62 M68
  have F71 : n0 ≤ h62.size := (Nat.le_trans (Nat.le_trans F55 E54.1) (Keep.of_wr W62).1)
  have F72 : Keep h0 h62 [a1] := ((F56.ext E54).wr W62 (Or.inr (Nat.le_trans F9.1 (Nat.le_of_eq g7.symm))))
  have F73 : Exa Z h62 a1 "com/example/hueline/hueline/model/BigIntArray" := ((F57.ext E54).wr W62)
  have F74 : Arv Z h62 b25 k25 .int (4 : Int32) [(.int (0 : Int32)), (.int (0 : Int32)), (.int (0 : Int32)), (.int (0 : Int32))] (.int (0 : Int32)) := ((F58.ext E54).other W62 (Ne.symm ne_b7_b25))
  have F75 : Arv Z h62 b39 k39 .int (4 : Int32) [(.int (0 : Int32)), (.int (0 : Int32)), (.int (0 : Int32)), (.int (0 : Int32))] (.int (0 : Int32)) := ((F59.ext E54).other W62 (Ne.symm ne_b7_b39))
  have F76 : Arv Z h62 b54 k54 .int (4 : Int32) [(.int (0 : Int32)), (.int (0 : Int32)), (.int (0 : Int32)), (.int (0 : Int32))] (.int (0 : Int32)) := (V54.other W62 (Ne.symm ne_b7_b54))
  refine own_newPE X68 hx hZ (hw _ (List.mem_of_getElem? (i := 45) rfl)) e68 (g := (mkF m 52 #[.val (.ref a1), .val (.long q1), .second, .val (.ref w1), .val (.int (3 : Int32))] [(.int zl), (.int (3 : Int32)), (.ref b7)])) rfl (hb hby d2_52) rfl (fun q => by rw [Int32.lt_iff_toInt_lt] at q; simp only [Int32.reduceToInt] at q; omega) 4 (by show zl.toInt.toNat ≤ 4; omega) (by decide) (by decide) (by decide) 4 "[I" rfl (fun T70 h70 k70 b70 X70 e70 E70 g70 V70 Y70 => ?_)
  have ne_a1_b70 : a1 ≠ b70 := Nat.ne_of_lt (Nat.lt_of_lt_of_le F73.lt (Nat.le_of_eq g70.symm))
  have ne_w1_b70 : w1 ≠ b70 := Nat.ne_of_lt (Nat.lt_of_lt_of_le F69.lt (Nat.le_of_eq g70.symm))
  have ne_b7_b70 : b7 ≠ b70 := Nat.ne_of_lt (Nat.lt_of_lt_of_le V62.lt (Nat.le_of_eq g70.symm))
  have ne_b25_b70 : b25 ≠ b70 := Nat.ne_of_lt (Nat.lt_of_lt_of_le F74.lt (Nat.le_of_eq g70.symm))
  have ne_b39_b70 : b39 ≠ b70 := Nat.ne_of_lt (Nat.lt_of_lt_of_le F75.lt (Nat.le_of_eq g70.symm))
  have ne_b54_b70 : b54 ≠ b70 := Nat.ne_of_lt (Nat.lt_of_lt_of_le F76.lt (Nat.le_of_eq g70.symm))
  replace V70 : Arv Z h70 b70 k70 .int zl [(.int (0 : Int32)), (.int (0 : Int32)), (.int (0 : Int32)), (.int (0 : Int32))] (.int (0 : Int32)) := V70
  have F78 : Arv Z h70 b7 k7 (.array .int) (4 : Int32) [(.ref b25), (.ref b39), (.ref b54), .null] .null := (V62.ext E70)
  refine own_aastore X70 hx hZ e70 F78 O7 Y70 (hw _ (List.mem_of_getElem? (i := 46) rfl)) (j := (3 : Int32)) ⟨by decide, by decide⟩ 3 rfl (Nat.le_of_ble_eq_true rfl) (g := (mkF m 54 #[.val (.ref a1), .val (.long q1), .second, .val (.ref w1), .val (.int (3 : Int32))] [(.ref b70), (.int (3 : Int32)), (.ref b7)])) rfl rfl (hb hby d2_54) (fun T79 h79 X79 e79 W79 V79 => ?_)
  replace V79 : Arv Z h79 b7 k7 (.array .int) (4 : Int32) [(.ref b25), (.ref b39), (.ref b54), (.ref b70)] .null := V79
  have N79 := Fr.snoc X79 N68 (Nat.le_trans F8 (Nat.le_of_eq g7.symm))
  show own_Run p e below Φ (T79.setTop (mkF m 55 #[.val (.ref a1), .val (.long q1), .second, .val (.ref w1), .val (.int (3 : Int32))] []))
  refine own_go (fun t k => XS.iinc X79.here hx rfl (hb hby d2_55) rfl (l' := #[.val (.ref a1), .val (.long q1), .second, .val (.ref w1), .val (.int ((3 : Int32) + (1 : Int32)))]) rfl k) ?_
  show own_Run p e below Φ (T79.setTop (mkF m 58 #[.val (.ref a1), .val (.long q1), .second, .val (.ref w1), .val (.int ((3 : Int32) + (1 : Int32)))] []))
  rw [show ((3 : Int32) + (1 : Int32)) = (4 : Int32) from by decide]
  show own_Run p e below Φ (T79.setTop (mkF m 58 #[.val (.ref a1), .val (.long q1), .second, .val (.ref w1), .val (.int (4 : Int32))] []))
  refine own_go (fun t k => XS.goto X79.here hx rfl (pc0 := 58) (pc' := 29) rfl (hb hby d2_58) (by decide) (by decide) k) ?_
  refine own_go (fun t k => XS.iload X79.here hx rfl (hb hby d2_29) rfl  k) ?_
  refine own_go (fun t k => XS.aloadN X79.here hx rfl (hb hby d2_31) rfl rfl  k) ?_
  have F80 : Fld Z h79 a1 "com/example/hueline/hueline/model/BigIntArray" "pages" "[[I" (.ref b7) := ((F63.ext E70).other W79 (Or.inl ne_a1_b7))
  obtain ⟨T81, X81, e81, st81⟩ := getF X79 hx hZ hown (host := "") (Or.inl (hw _ (List.mem_of_getElem? (i := 30) rfl))) Via.refl e79 F80 (g := (mkF m 32 #[.val (.ref a1), .val (.long q1), .second, .val (.ref w1), .val (.int (4 : Int32))] [(.ref a1), (.int (4 : Int32))])) rfl rfl (hb hby d2_32)
  refine own_go st81 ?_
  refine own_arrlen X81 hx hZ e81 V79 (g := (mkF m 35 #[.val (.ref a1), .val (.long q1), .second, .val (.ref w1), .val (.int (4 : Int32))] [(.ref b7), (.int (4 : Int32))])) rfl rfl (hb hby d2_35) ?_
  show own_Run p e below Φ (T81.setTop (mkF m 36 #[.val (.ref a1), .val (.long q1), .second, .val (.ref w1), .val (.int (4 : Int32))] [(.int (4 : Int32)), (.int (4 : Int32))]))
  refine own_go (fun t k => XS.icmpYes X81.here hx rfl (pc0 := 36) (pc' := 61) rfl (hb hby d2_36) rfl (flt (by decide : ¬ ((4 : Int32) < (4 : Int32)))).2.1 (by decide) (by decide) k) ?_
  refine own_go (fun t k => XS.aloadN X81.here hx rfl (hb hby d2_61) rfl rfl  k) ?_
  refine own_go (fun t k => XS.aloadN X81.here hx rfl (hb hby d2_62) rfl rfl  k) ?_
  obtain ⟨T82, X82, e82, st82⟩ := getF X81 hx hZ hown (host := "") (Or.inl (hw _ (List.mem_of_getElem? (i := 30) rfl))) Via.refl e81 F80 (g := (mkF m 63 #[.val (.ref a1), .val (.long q1), .second, .val (.ref w1), .val (.int (4 : Int32))] [(.ref a1), (.ref a1)])) rfl rfl (hb hby d2_63)
  refine own_go st82 ?_
  refine own_arrlen X82 hx hZ e82 V79 (g := (mkF m 66 #[.val (.ref a1), .val (.long q1), .second, .val (.ref w1), .val (.int (4 : Int32))] [(.ref b7), (.ref a1)])) rfl rfl (hb hby d2_66) ?_
  show own_Run p e below Φ (T82.setTop (mkF m 67 #[.val (.ref a1), .val (.long q1), .second, .val (.ref w1), .val (.int (4 : Int32))] [(.int (4 : Int32)), (.ref a1)]))
  refine own_go (fun t k => XS.iconst X82.here hx rfl (hb hby d2_67) k) ?_
  refine own_go (fun t k => XS.icmpYes X82.here hx rfl (pc0 := 68) (pc' := 80) rfl (hb hby d2_68) rfl (feq (by decide : ¬ ((4 : Int32) = (1 : Int32)))).2 (by decide) (by decide) k) ?_
  refine own_go (fun t k => XS.aconstNull X82.here hx rfl (hb hby d2_80) k) ?_
  have F83 : Fld Z h79 a1 "com/example/hueline/hueline/model/BigIntArray" "flat" "[I" .null := ((((((((((((H5.other W2 (Or.inr (slot_ne (Or.inl (hw _ (List.mem_of_getElem? (i := 48) rfl))) (Or.inr (hw _ (List.mem_of_getElem? (i := 17) rfl))) (by decide) (t := (.array .int)) (t' := (.object "com/example/hueline/hueline/model/Pages")) (by decide) (by decide)))).ext E7).other W13 (Or.inr (slot_ne (Or.inl (hw _ (List.mem_of_getElem? (i := 48) rfl))) (Or.inl (hw _ (List.mem_of_getElem? (i := 31) rfl))) (by decide) (t := (.array .int)) (t' := (.array (.array .int))) (by decide) (by decide)))).other W16 (Or.inr (slot_ne (Or.inl (hw _ (List.mem_of_getElem? (i := 48) rfl))) (Or.inl (hw _ (List.mem_of_getElem? (i := 33) rfl))) (by decide) (t := (.array .int)) (t' := .long) (by decide) (by decide)))).ext E25).other W31 (Or.inl ne_a1_b7)).ext E39).other W46 (Or.inl ne_a1_b7)).ext E54).other W62 (Or.inl ne_a1_b7)).ext E70).other W79 (Or.inl ne_a1_b7))
  have F84 : Exa Z h79 a1 "com/example/hueline/hueline/model/BigIntArray" := ((F73.ext E70).wr W79)
  obtain ⟨T85, h85, X85, e85, W85, st85⟩ := putF X82 hx hZ hown (host := "") (Or.inl (hw _ (List.mem_of_getElem? (i := 47) rfl))) Via.refl e82 F83 F84 (Or.inl (hw _ (List.mem_of_getElem? (i := 48) rfl))) (hw _ (List.mem_of_getElem? (i := 2) rfl)) (ty := (.array .int)) (by decide) rfl rfl (g := (mkF m 81 #[.val (.ref a1), .val (.long q1), .second, .val (.ref w1), .val (.int (4 : Int32))] [.null, (.ref a1)])) rfl rfl (hb hby d2_81)
  refine own_go st85 ?_
  have G85 : Fld Z h85 a1 "com/example/hueline/hueline/model/BigIntArray" "flat" "[I" .null := F83.same W85
  have N85 := Fr.snoc X85 N79 H6
  have F86 : Keep h0 h85 [a1] := (((F72.ext E70).wr W79 (Or.inr (Nat.le_trans F9.1 (Nat.le_of_eq g7.symm)))).wr W85 (Or.inl (List.mem_of_getElem? (i := 0) rfl)))
  have F87 : Fld Z h85 a1 "com/example/hueline/hueline/model/BigIntArray" "layout" "Lcom/example/hueline/hueline/model/Pages;" (.ref w1) := ((((((((((((G2.ext E7).other W13 (Or.inr (slot_ne (Or.inr (hw _ (List.mem_of_getElem? (i := 17) rfl))) (Or.inl (hw _ (List.mem_of_getElem? (i := 31) rfl))) (by decide) (t := (.object "com/example/hueline/hueline/model/Pages")) (t' := (.array (.array .int))) (by decide) (by decide)))).other W16 (Or.inr (slot_ne (Or.inr (hw _ (List.mem_of_getElem? (i := 17) rfl))) (Or.inl (hw _ (List.mem_of_getElem? (i := 33) rfl))) (by decide) (t := (.object "com/example/hueline/hueline/model/Pages")) (t' := .long) (by decide) (by decide)))).ext E25).other W31 (Or.inl ne_a1_b7)).ext E39).other W46 (Or.inl ne_a1_b7)).ext E54).other W62 (Or.inl ne_a1_b7)).ext E70).other W79 (Or.inl ne_a1_b7)).other W85 (Or.inr (slot_ne (Or.inr (hw _ (List.mem_of_getElem? (i := 17) rfl))) (Or.inl (hw _ (List.mem_of_getElem? (i := 48) rfl))) (by decide) (t := (.object "com/example/hueline/hueline/model/Pages")) (t' := (.array .int)) (by decide) (by decide))))
  have F88 : Fld Z h85 a1 "com/example/hueline/hueline/model/BigIntArray" "length" "J" (.long q1) := (((((((((G16.ext E25).other W31 (Or.inl ne_a1_b7)).ext E39).other W46 (Or.inl ne_a1_b7)).ext E54).other W62 (Or.inl ne_a1_b7)).ext E70).other W79 (Or.inl ne_a1_b7)).other W85 (Or.inr (slot_ne (Or.inl (hw _ (List.mem_of_getElem? (i := 33) rfl))) (Or.inl (hw _ (List.mem_of_getElem? (i := 48) rfl))) (by decide) (t := .long) (t' := (.array .int)) (by decide) (by decide))))
  have F89 : Fld Z h85 a1 "com/example/hueline/hueline/model/BigIntArray" "pages" "[[I" (.ref b7) := (F80.other W85 (Or.inr (slot_ne (Or.inl (hw _ (List.mem_of_getElem? (i := 31) rfl))) (Or.inl (hw _ (List.mem_of_getElem? (i := 48) rfl))) (by decide) (t := (.array (.array .int))) (t' := (.array .int)) (by decide) (by decide))))
  have F90 : Arv Z h85 b7 k7 (.array .int) (4 : Int32) [(.ref b25), (.ref b39), (.ref b54), (.ref b70)] .null := (V79.other W85 (Ne.symm ne_a1_b7))
  have F91 : Arv Z h85 b25 k25 .int (4 : Int32) [(.int (0 : Int32)), (.int (0 : Int32)), (.int (0 : Int32)), (.int (0 : Int32))] (.int (0 : Int32)) := (((F74.ext E70).other W79 (Ne.symm ne_b7_b25)).other W85 (Ne.symm ne_a1_b25))
  have F92 : Arv Z h85 b39 k39 .int (4 : Int32) [(.int (0 : Int32)), (.int (0 : Int32)), (.int (0 : Int32)), (.int (0 : Int32))] (.int (0 : Int32)) := (((F75.ext E70).other W79 (Ne.symm ne_b7_b39)).other W85 (Ne.symm ne_a1_b39))
  have F93 : Arv Z h85 b54 k54 .int (4 : Int32) [(.int (0 : Int32)), (.int (0 : Int32)), (.int (0 : Int32)), (.int (0 : Int32))] (.int (0 : Int32)) := (((F76.ext E70).other W79 (Ne.symm ne_b7_b54)).other W85 (Ne.symm ne_a1_b54))
  have F94 : Arv Z h85 b70 k70 .int zl [(.int (0 : Int32)), (.int (0 : Int32)), (.int (0 : Int32)), (.int (0 : Int32))] (.int (0 : Int32)) := ((V70.other W79 (Ne.symm ne_b7_b70)).other W85 (Ne.symm ne_a1_b70))
  subst hΦ
  exact own_retV X85 hx Bd.returns hlk (hb hby d2_84) e85 ⟨rfl, N85, F86, F87, F88, G85, ⟨_, _, _, _, _, _, _, _, _, _, (Nat.le_trans F8 (Nat.le_of_eq g7.symm)), (Nat.le_trans F9.1 (Nat.le_of_eq g7.symm)), (Nat.le_trans F26 (Nat.le_of_eq g25.symm)), (Nat.le_trans F27.1 (Nat.le_of_eq g25.symm)), (Nat.le_trans F40 (Nat.le_of_eq g39.symm)), (Nat.le_trans F41.1 (Nat.le_of_eq g39.symm)), (Nat.le_trans F55 (Nat.le_of_eq g54.symm)), (Nat.le_trans F56.1 (Nat.le_of_eq g54.symm)), (Nat.le_trans F71 (Nat.le_of_eq g70.symm)), (Nat.le_trans F72.1 (Nat.le_of_eq g70.symm)), ne_b7_b25, ne_b7_b39, ne_b7_b54, ne_b7_b70, ne_b25_b39, ne_b25_b54, ne_b25_b70, ne_b39_b54, ne_b39_b70, ne_b54_b70, F89, F90, F91, F92, F93, F94⟩⟩ (by decide) (by decide)
theorem d1_0 : decode prog_36_method_1_code 0 = .ok (.aload_n 0, 1) := by decide +kernel
theorem d1_1 : decode prog_36_method_1_code 1 = .ok (.lload_n 1, 1) := by decide +kernel
theorem d1_2 : decode prog_36_method_1_code 2 = .ok (.getstatic 1, 3) := by decide +kernel
theorem d1_5 : decode prog_36_method_1_code 5 = .ok (.invokespecial 7, 3) := by decide +kernel
theorem d1_8 : decode prog_36_method_1_code 8 = .ok (.return_, 1) := by decide +kernel
theorem pd_1 : parseMethodDescriptor "(JLcom/example/hueline/hueline/model/Pages;)V" = some ⟨[.long, (.object "com/example/hueline/hueline/model/Pages")], none⟩ := by decide +kernel
theorem ef_1_RJ (m : MethodId) (x0 : Addr) (x1 : Int64) : entryFrame m #[(.ref x0), (.long x1)] 3 = mkF m 0 #[.val (.ref x0), .val (.long x1), .second] [] := by first | (simp [entryFrame, mkF, argsToLocals, Value.category]; done) | rfl
set_option maxRecDepth 65536 in
set_option maxHeartbeats 40000000 in
theorem rm_b1 (l : Launch) (Z : State) (a0 : Array Value) (hw : ∀ d ∈ tables_1, d.before a0 Z = true) (a1 : Addr) (q1 : Int64) (w1 : Addr) (zl : Int32) (h0 : Heap) (n0 : Nat) (H1 : Exa Z h0 a1 "com/example/hueline/hueline/model/BigIntArray") (H2 : Fld Z h0 a1 "com/example/hueline/hueline/model/BigIntArray" "layout" "Lcom/example/hueline/hueline/model/Pages;" .null) (H3 : Fld Z h0 a1 "com/example/hueline/hueline/model/BigIntArray" "pages" "[[I" .null) (H4 : Fld Z h0 a1 "com/example/hueline/hueline/model/BigIntArray" "length" "J" (.long (0 : Int64))) (H5 : Fld Z h0 a1 "com/example/hueline/hueline/model/BigIntArray" "flat" "[I" .null) (H6 : n0 ≤ a1) (H7 : n0 ≤ h0.size) (H8 : Old Z n0 h0) (H9 : Exa Z Z.heap w1 "com/example/hueline/hueline/model/Pages") (H10 : Fld Z Z.heap w1 "com/example/hueline/hueline/model/Pages" "mask" "I" (.int (1073741823 : Int32))) (H11 : Fld Z Z.heap w1 "com/example/hueline/hueline/model/Pages" "shift" "I" (.int (30 : Int32))) (H12 : Fld Z Z.heap w1 "com/example/hueline/hueline/model/Pages" "length" "I" (.int (1073741824 : Int32))) (H13 : Sta Z Z.heap "com/example/hueline/hueline/model/Pages" "STANDARD" "Lcom/example/hueline/hueline/model/Pages;" (.ref w1)) (hz : 1 ≤ zl.toInt ∧ zl.toInt ≤ 16) (hn : q1.toInt = 0 + zl.toInt) :
    own_Met l Z (⟨"com/example/hueline/hueline/model/BigIntArray", "<init>", "(J)V"⟩ : MethodName) prog_36_method_1_code 3 none ({ frames := 3, cells := 2, slots := 17, locals := 48 } : Room) #[(.ref a1), (.long q1)] h0 (fun v h L => v = none ∧ Fr n0 L ∧ Keep h0 h [a1] ∧ Fld Z h a1 "com/example/hueline/hueline/model/BigIntArray" "length" "J" (.long q1) ∧ ∃ (x0 : Addr) (k0 : ClassId), n0 ≤ x0 ∧ h0.size ≤ x0 ∧ Fld Z h a1 "com/example/hueline/hueline/model/BigIntArray" "flat" "[I" (.ref x0) ∧ Arv Z h x0 k0 .int zl (own_fl own_z) (.int (0 : Int32))) := by
  intro ws
  refine MetFree.of_bodySF (plainFor_of_name pn_c1) hisR ?_
  intro p e s m args below meth c s₁ Bd hml0 hP hK
  obtain ⟨rfl, hZ, hh⟩ := hP
  have hx := Bd.exec
  have hby := Bd.bytes
  have hml : c.maxLocals = 3 := hml0
  have hown : s.vm.findClass "com/example/hueline/hueline/model/BigIntArray" = some m.cls := findClass_of_methodNamed Bd.named
  have hnm := (name_of_methodNamed Bd.named Bd.method).1
  have hlk : meth.locks = false := Bd.notSynchronized
  have X0 : Stand p l e ({ frames := 3, cells := 2, slots := 17, locals := 48 } : Room) s m #[(.ref a1), (.long q1)] below meth c s₁ [] 0 0 := Stand.of_body Bd
  have e0 : s₁.heap = h0 := by rw [← hh, Bd.state]; rfl
  have N0 := Fr.nil n0
  refine own_body (Q := fun v h L => v = none ∧ Fr n0 L ∧ Keep h0 h [a1] ∧ Fld Z h a1 "com/example/hueline/hueline/model/BigIntArray" "length" "J" (.long q1) ∧ ∃ (x0 : Addr) (k0 : ClassId), n0 ≤ x0 ∧ h0.size ≤ x0 ∧ Fld Z h a1 "com/example/hueline/hueline/model/BigIntArray" "flat" "[I" (.ref x0) ∧ Arv Z h x0 k0 .int zl (own_fl own_z) (.int (0 : Int32))) ?_
  generalize hΦ : own_Fin s below _ _ _ = Φ
  refine own_cast (ef_1_RJ m a1 q1) ?_
  have K0 := Keep.refl h0 [a1]
  show own_Run p e below Φ (s₁.setTop (mkF m 0 #[.val (.ref a1), .val (.long q1), .second] []))
  refine own_go (fun t k => XS.aloadN X0.here hx rfl (hb hby d1_0) rfl rfl  k) ?_
  refine own_go (fun t k => XS.lloadN X0.here hx rfl (hb hby d1_1) rfl  k) ?_
  obtain ⟨T1, X1, e1, st1⟩ := getS2 X0 hx hZ hown (host := "") (Or.inl (hw _ (List.mem_of_getElem? (i := 7) rfl))) Via.refl e0 (H13.ext H8.2) (g := (mkF m 2 #[.val (.ref a1), .val (.long q1), .second] [(.long q1), (.ref a1)])) rfl (hb hby d1_2)
  refine own_go st1 ?_
  refine own_callI X1 hx hZ (y := (⟨"com/example/hueline/hueline/model/BigIntArray", "<init>", "(JLcom/example/hueline/hueline/model/Pages;)V"⟩ : MethodName)) (W := 0) (a := a1) (argsL := [(.long q1), (.ref w1)]) (rest := []) rfl hown (hw _ (List.mem_of_getElem? (i := 10) rfl)) (hw _ (List.mem_of_getElem? (i := 11) rfl)) (hw _ (List.mem_of_getElem? (i := 12) rfl)) (by decide) (own_bk (rm_ct1s l Z a0 hw a1 q1 w1 zl h0 n0 H1 H2 H3 H4 H5 H6 H7 H8 H9 H10 H11 H12 hz hn) hZ (hw _ (List.mem_of_getElem? (i := 12) rfl)) (hw _ (List.mem_of_getElem? (i := 3) rfl)) (by decide) (by decide)) e1 (g := (mkF m 5 #[.val (.ref a1), .val (.long q1), .second] [(.ref w1), (.long q1), (.ref a1)])) rfl (by rw [hml]; rfl) (lenOf pd_1 rfl) rfl (by show 2 * 0 + _ ≤ _; exact Nat.le_of_eq rfl) (hb hby d1_5) (by decide) (by decide) (fun v2 T2 h2 L2 X2 e2 q2 => ?_)
  obtain ⟨rfl, M2, K2, P2_0, P2_1, P2_2⟩ := q2
  have N2 := Fr.app N0 M2
  have F3 : Keep h0 h2 [a1] := (K0.trans K2 (allS (P := fun x => x ∈ [a1] ∨ h0.size ≤ x) (Or.inl (List.mem_of_getElem? (i := 0) rfl)) all0))
  subst hΦ
  exact own_retV X2 hx Bd.returns hlk (hb hby d1_8) e2 ⟨rfl, N2, F3, P2_1, P2_2⟩ (by decide) (by decide)
theorem d8_0 : decode prog_36_method_4_code 0 = .ok (.aload_n 0, 1) := by decide +kernel
theorem d8_1 : decode prog_36_method_4_code 1 = .ok (.getfield 38, 3) := by decide +kernel
theorem d8_4 : decode prog_36_method_4_code 4 = .ok (.astore_n 3, 1) := by decide +kernel
theorem d8_5 : decode prog_36_method_4_code 5 = .ok (.aload_n 3, 1) := by decide +kernel
theorem d8_6 : decode prog_36_method_4_code 6 = .ok (.ifnull 8, 3) := by decide +kernel
theorem d8_9 : decode prog_36_method_4_code 9 = .ok (.aload_n 3, 1) := by decide +kernel
theorem d8_10 : decode prog_36_method_4_code 10 = .ok (.lload_n 1, 1) := by decide +kernel
theorem d8_11 : decode prog_36_method_4_code 11 = .ok (.l2i, 1) := by decide +kernel
theorem d8_12 : decode prog_36_method_4_code 12 = .ok (.iaload, 1) := by decide +kernel
theorem d8_13 : decode prog_36_method_4_code 13 = .ok (.ireturn, 1) := by decide +kernel
theorem ef_8_RJ (m : MethodId) (x0 : Addr) (x1 : Int64) : entryFrame m #[(.ref x0), (.long x1)] 4 = mkF m 0 #[.val (.ref x0), .val (.long x1), .second, .unset] [] := by first | (simp [entryFrame, mkF, argsToLocals, Value.category]; done) | rfl
set_option maxRecDepth 65536 in
set_option maxHeartbeats 40000000 in
theorem rm_get1 (l : Launch) (Z : State) (a0 : Array Value) (hw : ∀ d ∈ tables_1, d.before a0 Z = true) (a1 : Addr) (q1 : Int64) (x0 : Addr) (k0 : ClassId) (zl : Int32) (fc : Int64 → Int32) (h0 : Heap) (n0 : Nat) (H1 : Fld Z h0 a1 "com/example/hueline/hueline/model/BigIntArray" "flat" "[I" (.ref x0)) (H2 : Arv Z h0 x0 k0 .int zl (own_fl fc) (.int (0 : Int32))) (hz : 1 ≤ zl.toInt ∧ zl.toInt ≤ 16) (hq : 0 ≤ q1.toInt ∧ q1.toInt < 0 + zl.toInt) :
    own_Met l Z (⟨"com/example/hueline/hueline/model/BigIntArray", "get", "(J)I"⟩ : MethodName) prog_36_method_4_code 4 (some .int) ({ frames := 0, cells := 0, slots := 0, locals := 0 } : Room) #[(.ref a1), (.long q1)] h0 (fun v h L => v = some (.int (fc q1)) ∧ Fr n0 L ∧ h = h0) := by
  intro ws
  refine MetFree.of_bodySF (plainFor_of_name pn_c1) hisR ?_
  intro p e s m args below meth c s₁ Bd hml0 hP hK
  obtain ⟨rfl, hZ, hh⟩ := hP
  have hx := Bd.exec
  have hby := Bd.bytes
  have hml : c.maxLocals = 4 := hml0
  have hown : s.vm.findClass "com/example/hueline/hueline/model/BigIntArray" = some m.cls := findClass_of_methodNamed Bd.named
  have hnm := (name_of_methodNamed Bd.named Bd.method).1
  have hlk : meth.locks = false := Bd.notSynchronized
  have X0 : Stand p l e ({ frames := 0, cells := 0, slots := 0, locals := 0 } : Room) s m #[(.ref a1), (.long q1)] below meth c s₁ [] 0 0 := Stand.of_body Bd
  have e0 : s₁.heap = h0 := by rw [← hh, Bd.state]; rfl
  have N0 := Fr.nil n0
  refine own_body (Q := fun v h L => v = some (.int (fc q1)) ∧ Fr n0 L ∧ h = h0) ?_
  generalize hΦ : own_Fin s below _ _ _ = Φ
  refine own_cast (ef_8_RJ m a1 q1) ?_
  show own_Run p e below Φ (s₁.setTop (mkF m 0 #[.val (.ref a1), .val (.long q1), .second, .unset] []))
  refine own_go (fun t k => XS.aloadN X0.here hx rfl (hb hby d8_0) rfl rfl  k) ?_
  obtain ⟨T1, X1, e1, st1⟩ := getF X0 hx hZ hown (host := "") (Or.inl (hw _ (List.mem_of_getElem? (i := 47) rfl))) Via.refl e0 H1 (g := (mkF m 1 #[.val (.ref a1), .val (.long q1), .second, .unset] [(.ref a1)])) rfl rfl (hb hby d8_1)
  refine own_go st1 ?_
  refine own_go (fun t k => XS.astoreN X1.here hx rfl (hb hby d8_4) rfl rfl (l' := #[.val (.ref a1), .val (.long q1), .second, .val (.ref x0)]) rfl k) ?_
  refine own_go (fun t k => XS.aloadN X1.here hx rfl (hb hby d8_5) rfl rfl  k) ?_
  refine own_go (fun t k => XS.ifnullNo X1.here hx rfl (hb hby d8_6) rfl k) ?_
  show own_Run p e below Φ (T1.setTop (mkF m 9 #[.val (.ref a1), .val (.long q1), .second, .val (.ref x0)] []))
  refine own_go (fun t k => XS.aloadN X1.here hx rfl (hb hby d8_9) rfl rfl  k) ?_
  refine own_go (fun t k => XS.lloadN X1.here hx rfl (hb hby d8_10) rfl  k) ?_
  refine own_go (fun t k => XS.l2i X1.here hx rfl (hb hby d8_11) rfl k) ?_
  refine own_iaload X1 hx hZ e1 H2 (j := (q1.toInt32)) (v := (.int (fc q1))) ⟨fun q => by have e := own_fl_i (q := q1) ⟨by omega, by omega⟩; rw [Int32.lt_iff_toInt_lt] at q; simp only [Int32.reduceToInt] at q; omega, by have e := own_fl_i (q := q1) ⟨by omega, by omega⟩; rw [Int32.lt_iff_toInt_lt]; omega⟩ (own_fl_g fc ⟨by omega, by omega⟩) (g := (mkF m 12 #[.val (.ref a1), .val (.long q1), .second, .val (.ref x0)] [(.int (q1.toInt32)), (.ref x0)])) rfl rfl (hb hby d8_12) ?_
  subst hΦ
  exact own_retI X1 hx Bd.returns hlk (hb hby d8_13) e1 ⟨rfl, N0, rfl⟩ (by decide) (by decide)
theorem d7_0 : decode prog_36_method_5_code 0 = .ok (.aload_n 0, 1) := by decide +kernel
theorem d7_1 : decode prog_36_method_5_code 1 = .ok (.getfield 38, 3) := by decide +kernel
theorem d7_4 : decode prog_36_method_5_code 4 = .ok (.astore 4, 2) := by decide +kernel
theorem d7_6 : decode prog_36_method_5_code 6 = .ok (.aload 4, 2) := by decide +kernel
theorem d7_8 : decode prog_36_method_5_code 8 = .ok (.ifnull 12, 3) := by decide +kernel
theorem d7_11 : decode prog_36_method_5_code 11 = .ok (.aload 4, 2) := by decide +kernel
theorem d7_13 : decode prog_36_method_5_code 13 = .ok (.lload_n 1, 1) := by decide +kernel
theorem d7_14 : decode prog_36_method_5_code 14 = .ok (.l2i, 1) := by decide +kernel
theorem d7_15 : decode prog_36_method_5_code 15 = .ok (.iload_n 3, 1) := by decide +kernel
theorem d7_16 : decode prog_36_method_5_code 16 = .ok (.iastore, 1) := by decide +kernel
theorem d7_17 : decode prog_36_method_5_code 17 = .ok (.goto 26, 3) := by decide +kernel
theorem d7_43 : decode prog_36_method_5_code 43 = .ok (.return_, 1) := by decide +kernel
theorem ef_7_RJI (m : MethodId) (x0 : Addr) (x1 : Int64) (x2 : Int32) : entryFrame m #[(.ref x0), (.long x1), (.int x2)] 5 = mkF m 0 #[.val (.ref x0), .val (.long x1), .second, .val (.int x2), .unset] [] := by first | (simp [entryFrame, mkF, argsToLocals, Value.category]; done) | rfl
set_option maxRecDepth 65536 in
set_option maxHeartbeats 40000000 in
theorem rm_set1 (l : Launch) (Z : State) (a0 : Array Value) (hw : ∀ d ∈ tables_1, d.before a0 Z = true) (a1 : Addr) (q1 : Int64) (p3 : Int32) (x0 : Addr) (k0 : ClassId) (zl : Int32) (fc : Int64 → Int32) (h0 : Heap) (n0 : Nat) (H1 : Fld Z h0 a1 "com/example/hueline/hueline/model/BigIntArray" "flat" "[I" (.ref x0)) (H2 : Arv Z h0 x0 k0 .int zl (own_fl fc) (.int (0 : Int32))) (hz : 1 ≤ zl.toInt ∧ zl.toInt ≤ 16) (hq : 0 ≤ q1.toInt ∧ q1.toInt < 0 + zl.toInt) (H5 : n0 ≤ x0) :
    own_Met l Z (⟨"com/example/hueline/hueline/model/BigIntArray", "set", "(JI)V"⟩ : MethodName) prog_36_method_5_code 5 none ({ frames := 0, cells := 0, slots := 0, locals := 0 } : Room) #[(.ref a1), (.long q1), (.int p3)] h0 (fun v h L => v = none ∧ Fr n0 L ∧ Keep h0 h [x0] ∧ Arv Z h x0 k0 .int zl (own_fl (own_upd fc q1 p3)) (.int (0 : Int32))) := by
  intro ws
  refine MetFree.of_bodySF (plainFor_of_name pn_c1) hisR ?_
  intro p e s m args below meth c s₁ Bd hml0 hP hK
  obtain ⟨rfl, hZ, hh⟩ := hP
  have hx := Bd.exec
  have hby := Bd.bytes
  have hml : c.maxLocals = 5 := hml0
  have hown : s.vm.findClass "com/example/hueline/hueline/model/BigIntArray" = some m.cls := findClass_of_methodNamed Bd.named
  have hnm := (name_of_methodNamed Bd.named Bd.method).1
  have hlk : meth.locks = false := Bd.notSynchronized
  have X0 : Stand p l e ({ frames := 0, cells := 0, slots := 0, locals := 0 } : Room) s m #[(.ref a1), (.long q1), (.int p3)] below meth c s₁ [] 0 0 := Stand.of_body Bd
  have e0 : s₁.heap = h0 := by rw [← hh, Bd.state]; rfl
  have N0 := Fr.nil n0
  refine own_body (Q := fun v h L => v = none ∧ Fr n0 L ∧ Keep h0 h [x0] ∧ Arv Z h x0 k0 .int zl (own_fl (own_upd fc q1 p3)) (.int (0 : Int32))) ?_
  generalize hΦ : own_Fin s below _ _ _ = Φ
  refine own_cast (ef_7_RJI m a1 q1 p3) ?_
  have K0 := Keep.refl h0 [x0]
  show own_Run p e below Φ (s₁.setTop (mkF m 0 #[.val (.ref a1), .val (.long q1), .second, .val (.int p3), .unset] []))
  refine own_go (fun t k => XS.aloadN X0.here hx rfl (hb hby d7_0) rfl rfl  k) ?_
  obtain ⟨T1, X1, e1, st1⟩ := getF X0 hx hZ hown (host := "") (Or.inl (hw _ (List.mem_of_getElem? (i := 47) rfl))) Via.refl e0 H1 (g := (mkF m 1 #[.val (.ref a1), .val (.long q1), .second, .val (.int p3), .unset] [(.ref a1)])) rfl rfl (hb hby d7_1)
  refine own_go st1 ?_
  refine own_go (fun t k => XS.astore X1.here hx rfl (hb hby d7_4) rfl rfl (l' := #[.val (.ref a1), .val (.long q1), .second, .val (.int p3), .val (.ref x0)]) rfl k) ?_
  refine own_go (fun t k => XS.aload X1.here hx rfl (hb hby d7_6) rfl rfl  k) ?_
  refine own_go (fun t k => XS.ifnullNo X1.here hx rfl (hb hby d7_8) rfl k) ?_
  show own_Run p e below Φ (T1.setTop (mkF m 11 #[.val (.ref a1), .val (.long q1), .second, .val (.int p3), .val (.ref x0)] []))
  refine own_go (fun t k => XS.aload X1.here hx rfl (hb hby d7_11) rfl rfl  k) ?_
  refine own_go (fun t k => XS.lloadN X1.here hx rfl (hb hby d7_13) rfl  k) ?_
  refine own_go (fun t k => XS.l2i X1.here hx rfl (hb hby d7_14) rfl k) ?_
  refine own_go (fun t k => XS.iloadN X1.here hx rfl (hb hby d7_15) rfl  k) ?_
  refine own_iastore X1 hx hZ e1 H2 (j := (q1.toInt32)) ⟨fun q => by have e := own_fl_i (q := q1) ⟨by omega, by omega⟩; rw [Int32.lt_iff_toInt_lt] at q; simp only [Int32.reduceToInt] at q; omega, by have e := own_fl_i (q := q1) ⟨by omega, by omega⟩; rw [Int32.lt_iff_toInt_lt]; omega⟩ (q1.toInt32).toNatClampNeg rfl (own_fl_l fc ⟨by omega, by omega⟩) (g := (mkF m 16 #[.val (.ref a1), .val (.long q1), .second, .val (.int p3), .val (.ref x0)] [(.int p3), (.int (q1.toInt32)), (.ref x0)])) rfl rfl (hb hby d7_16) (fun T2 h2 X2 e2 W2 V2 => ?_)
  replace V2 : Arv Z h2 x0 k0 .int zl (own_fl (own_upd fc q1 p3)) (.int (0 : Int32)) := (by rw [← own_fl_s fc p3 ⟨by omega, by omega⟩]; exact V2)
  have N2 := Fr.snoc X2 N0 H5
  show own_Run p e below Φ (T2.setTop (mkF m 17 #[.val (.ref a1), .val (.long q1), .second, .val (.int p3), .val (.ref x0)] []))
  refine own_go (fun t k => XS.goto X2.here hx rfl (pc0 := 17) (pc' := 43) rfl (hb hby d7_17) (by decide) (by decide) k) ?_
  have F3 : Keep h0 h2 [x0] := (K0.wr W2 (Or.inl (List.mem_of_getElem? (i := 0) rfl)))
  subst hΦ
  exact own_retV X2 hx Bd.returns hlk (hb hby d7_43) e2 ⟨rfl, N2, F3, V2⟩ (by decide) (by decide)
theorem d8_14 : decode prog_36_method_4_code 14 = .ok (.aload_n 0, 1) := by decide +kernel
theorem d8_15 : decode prog_36_method_4_code 15 = .ok (.getfield 27, 3) := by decide +kernel
theorem d8_18 : decode prog_36_method_4_code 18 = .ok (.aload_n 0, 1) := by decide +kernel
theorem d8_19 : decode prog_36_method_4_code 19 = .ok (.getfield 18, 3) := by decide +kernel
theorem d8_22 : decode prog_36_method_4_code 22 = .ok (.lload_n 1, 1) := by decide +kernel
theorem d8_23 : decode prog_36_method_4_code 23 = .ok (.invokevirtual 41, 3) := by decide +kernel
theorem d8_26 : decode prog_36_method_4_code 26 = .ok (.aaload, 1) := by decide +kernel
theorem d8_27 : decode prog_36_method_4_code 27 = .ok (.aload_n 0, 1) := by decide +kernel
theorem d8_28 : decode prog_36_method_4_code 28 = .ok (.getfield 18, 3) := by decide +kernel
theorem d8_31 : decode prog_36_method_4_code 31 = .ok (.lload_n 1, 1) := by decide +kernel
theorem d8_32 : decode prog_36_method_4_code 32 = .ok (.invokevirtual 44, 3) := by decide +kernel
theorem d8_35 : decode prog_36_method_4_code 35 = .ok (.iaload, 1) := by decide +kernel
theorem d8_36 : decode prog_36_method_4_code 36 = .ok (.ireturn, 1) := by decide +kernel
set_option maxRecDepth 65536 in
set_option maxHeartbeats 40000000 in
theorem rm_get2 (l : Launch) (Z : State) (a0 : Array Value) (hw : ∀ d ∈ tables_1, d.before a0 Z = true) (a1 : Addr) (q1 : Int64) (w1 : Addr) (x9 : Addr) (k9 : ClassId) (x0 : Addr) (k0 : ClassId) (x1 : Addr) (k1 : ClassId) (zl : Int32) (fc : Int64 → Int32) (h0 : Heap) (n0 : Nat) (H1 : Fld Z h0 a1 "com/example/hueline/hueline/model/BigIntArray" "flat" "[I" .null) (H2 : Fld Z h0 a1 "com/example/hueline/hueline/model/BigIntArray" "pages" "[[I" (.ref x9)) (H3 : Fld Z h0 a1 "com/example/hueline/hueline/model/BigIntArray" "layout" "Lcom/example/hueline/hueline/model/Pages;" (.ref w1)) (H4 : Exa Z h0 w1 "com/example/hueline/hueline/model/Pages") (H5 : Fld Z h0 w1 "com/example/hueline/hueline/model/Pages" "shift" "I" (.int (2 : Int32))) (H6 : Fld Z h0 w1 "com/example/hueline/hueline/model/Pages" "mask" "I" (.int (3 : Int32))) (H7 : Arv Z h0 x9 k9 (.array .int) (2 : Int32) [(.ref x0), (.ref x1)] .null) (H8 : Arv Z h0 x0 k0 .int (4 : Int32) (own_p0 fc) (.int (0 : Int32))) (H9 : Arv Z h0 x1 k1 .int zl (own_p1 fc) (.int (0 : Int32))) (hz : 1 ≤ zl.toInt ∧ zl.toInt ≤ 4) (hq : 0 ≤ q1.toInt ∧ q1.toInt < 4 + zl.toInt) :
    own_Met l Z (⟨"com/example/hueline/hueline/model/BigIntArray", "get", "(J)I"⟩ : MethodName) prog_36_method_4_code 4 (some .int) ({ frames := 1, cells := 0, slots := 0, locals := 15 } : Room) #[(.ref a1), (.long q1)] h0 (fun v h L => v = some (.int (fc q1)) ∧ Fr n0 L ∧ h = h0) := by
  intro ws
  refine MetFree.of_bodySF (plainFor_of_name pn_c1) hisR ?_
  intro p e s m args below meth c s₁ Bd hml0 hP hK
  obtain ⟨rfl, hZ, hh⟩ := hP
  have hx := Bd.exec
  have hby := Bd.bytes
  have hml : c.maxLocals = 4 := hml0
  have hown : s.vm.findClass "com/example/hueline/hueline/model/BigIntArray" = some m.cls := findClass_of_methodNamed Bd.named
  have hnm := (name_of_methodNamed Bd.named Bd.method).1
  have hlk : meth.locks = false := Bd.notSynchronized
  have X0 : Stand p l e ({ frames := 1, cells := 0, slots := 0, locals := 15 } : Room) s m #[(.ref a1), (.long q1)] below meth c s₁ [] 0 0 := Stand.of_body Bd
  have e0 : s₁.heap = h0 := by rw [← hh, Bd.state]; rfl
  have N0 := Fr.nil n0
  refine own_body (Q := fun v h L => v = some (.int (fc q1)) ∧ Fr n0 L ∧ h = h0) ?_
  generalize hΦ : own_Fin s below _ _ _ = Φ
  refine own_cast (ef_8_RJ m a1 q1) ?_
  show own_Run p e below Φ (s₁.setTop (mkF m 0 #[.val (.ref a1), .val (.long q1), .second, .unset] []))
  refine own_go (fun t k => XS.aloadN X0.here hx rfl (hb hby d8_0) rfl rfl  k) ?_
  obtain ⟨T1, X1, e1, st1⟩ := getF X0 hx hZ hown (host := "") (Or.inl (hw _ (List.mem_of_getElem? (i := 47) rfl))) Via.refl e0 H1 (g := (mkF m 1 #[.val (.ref a1), .val (.long q1), .second, .unset] [(.ref a1)])) rfl rfl (hb hby d8_1)
  refine own_go st1 ?_
  refine own_go (fun t k => XS.astoreN X1.here hx rfl (hb hby d8_4) rfl rfl (l' := #[.val (.ref a1), .val (.long q1), .second, .val .null]) rfl k) ?_
  refine own_go (fun t k => XS.aloadN X1.here hx rfl (hb hby d8_5) rfl rfl  k) ?_
  refine own_go (fun t k => XS.ifnullYes X1.here hx rfl (pc0 := 6) (pc' := 14) rfl (hb hby d8_6) rfl (by decide) (by decide) k) ?_
  show own_Run p e below Φ (T1.setTop (mkF m 14 #[.val (.ref a1), .val (.long q1), .second, .val .null] []))
  refine own_go (fun t k => XS.aloadN X1.here hx rfl (hb hby d8_14) rfl rfl  k) ?_
  obtain ⟨T2, X2, e2, st2⟩ := getF X1 hx hZ hown (host := "") (Or.inl (hw _ (List.mem_of_getElem? (i := 30) rfl))) Via.refl e1 H2 (g := (mkF m 15 #[.val (.ref a1), .val (.long q1), .second, .val .null] [(.ref a1)])) rfl rfl (hb hby d8_15)
  refine own_go st2 ?_
  refine own_go (fun t k => XS.aloadN X2.here hx rfl (hb hby d8_18) rfl rfl  k) ?_
  obtain ⟨T3, X3, e3, st3⟩ := getF X2 hx hZ hown (host := "") (Or.inl (hw _ (List.mem_of_getElem? (i := 16) rfl))) Via.refl e2 H3 (g := (mkF m 19 #[.val (.ref a1), .val (.long q1), .second, .val .null] [(.ref a1), (.ref x9)])) rfl rfl (hb hby d8_19)
  refine own_go st3 ?_
  refine own_go (fun t k => XS.lloadN X3.here hx rfl (hb hby d8_22) rfl  k) ?_
  show own_Run p e below Φ (T3.setTop (mkF m 23 #[.val (.ref a1), .val (.long q1), .second, .val .null] [(.long q1), (.ref w1), (.ref x9)]))
  refine own_callV X3 hx hZ (y := (⟨"com/example/hueline/hueline/model/Pages", "page", "(J)I"⟩ : MethodName)) (z := (⟨"com/example/hueline/hueline/model/Pages", "page", "(J)I"⟩ : MethodName)) (W := 1) (a := w1) (argsL := [(.long q1)]) (rest := [(.ref x9)]) hown (hw _ (List.mem_of_getElem? (i := 71) rfl)) (hw _ (List.mem_of_getElem? (i := 72) rfl)) (notFace_of_selects (args := #[]) (mvT hZ (hw _ (List.mem_of_getElem? (i := 74) rfl)))) (hw _ (List.mem_of_getElem? (i := 74) rfl)) (hw _ (List.mem_of_getElem? (i := 73) rfl)) (by decide) (own_bk (rm_pag l Z a0 hw w1 q1 h0 n0 H5) hZ (hw _ (List.mem_of_getElem? (i := 75) rfl)) (hw _ (List.mem_of_getElem? (i := 8) rfl)) (by decide) (by decide)) e3 H4 (g := (mkF m 23 #[.val (.ref a1), .val (.long q1), .second, .val .null] [(.long q1), (.ref w1), (.ref x9)])) rfl (by rw [hml]; rfl) (lenOf pd_3 rfl) rfl (by show 2 * 0 + _ ≤ _; exact Nat.le_of_eq rfl) (hb hby d8_23) (by decide) (by decide) (fun v4 T4 h4 L4 X4 e4 q4 => ?_)
  obtain ⟨rfl, M4, s4⟩ := q4
  replace e4 : T4.heap = h0 := e4.trans s4
  have N4 := Fr.app N0 M4
  show own_Run p e below Φ (T4.setTop (mkF m 26 #[.val (.ref a1), .val (.long q1), .second, .val .null] [(.int (((q1.toUInt64 >>> ((2 : Int32) &&& 0x3f).toInt64.toUInt64).toInt64).toInt32)), (.ref x9)]))
  have hcs : (0 ≤ q1.toInt ∧ q1.toInt < 4) ∨ (4 ≤ q1.toInt ∧ q1.toInt < 8) := by omega
  rcases hcs with hcs | hcs
  · rw [own_p0_p hcs]
    show own_Run p e below Φ (T4.setTop (mkF m 26 #[.val (.ref a1), .val (.long q1), .second, .val .null] [(.int (0 : Int32)), (.ref x9)]))
    refine own_aaload X4 hx hZ e4 H7 (j := (0 : Int32)) (v := (.ref x0)) rfl ⟨by decide, by decide⟩ rfl (g := (mkF m 26 #[.val (.ref a1), .val (.long q1), .second, .val .null] [(.int (0 : Int32)), (.ref x9)])) rfl rfl (hb hby d8_26) ?_
    refine own_go (fun t k => XS.aloadN X4.here hx rfl (hb hby d8_27) rfl rfl  k) ?_
    obtain ⟨T5, X5, e5, st5⟩ := getF X4 hx hZ hown (host := "") (Or.inl (hw _ (List.mem_of_getElem? (i := 16) rfl))) Via.refl e4 H3 (g := (mkF m 28 #[.val (.ref a1), .val (.long q1), .second, .val .null] [(.ref a1), (.ref x0)])) rfl rfl (hb hby d8_28)
    refine own_go st5 ?_
    refine own_go (fun t k => XS.lloadN X5.here hx rfl (hb hby d8_31) rfl  k) ?_
    refine own_callV X5 hx hZ (y := (⟨"com/example/hueline/hueline/model/Pages", "offset", "(J)I"⟩ : MethodName)) (z := (⟨"com/example/hueline/hueline/model/Pages", "offset", "(J)I"⟩ : MethodName)) (W := 1) (a := w1) (argsL := [(.long q1)]) (rest := [(.ref x0)]) hown (hw _ (List.mem_of_getElem? (i := 76) rfl)) (hw _ (List.mem_of_getElem? (i := 77) rfl)) (notFace_of_selects (args := #[]) (mvT hZ (hw _ (List.mem_of_getElem? (i := 79) rfl)))) (hw _ (List.mem_of_getElem? (i := 79) rfl)) (hw _ (List.mem_of_getElem? (i := 78) rfl)) (by decide) (own_bk (rm_off l Z a0 hw w1 q1 h0 n0 H6) hZ (hw _ (List.mem_of_getElem? (i := 80) rfl)) (hw _ (List.mem_of_getElem? (i := 8) rfl)) (by decide) (by decide)) e5 H4 (g := (mkF m 32 #[.val (.ref a1), .val (.long q1), .second, .val .null] [(.long q1), (.ref w1), (.ref x0)])) rfl (by rw [hml]; rfl) (lenOf pd_3 rfl) rfl (by show 2 * 0 + _ ≤ _; exact Nat.le_of_eq rfl) (hb hby d8_32) (by decide) (by decide) (fun v6 T6 h6 L6 X6 e6 q6 => ?_)
    obtain ⟨rfl, M6, s6⟩ := q6
    replace e6 : T6.heap = h0 := e6.trans s6
    have N6 := Fr.app N4 M6
    show own_Run p e below Φ (T6.setTop (mkF m 35 #[.val (.ref a1), .val (.long q1), .second, .val .null] [(.int ((q1.toInt32) &&& (3 : Int32))), (.ref x0)]))
    refine own_iaload X6 hx hZ e6 H8 (j := ((q1.toInt32) &&& (3 : Int32))) (v := (.int (fc q1))) ⟨fun q => by have e := own_p0_i (q := q1) hcs; rw [Int32.lt_iff_toInt_lt] at q; simp only [Int32.reduceToInt] at q; omega, by have e := own_p0_i (q := q1) hcs; rw [Int32.lt_iff_toInt_lt]; simp only [Int32.reduceToInt]; omega⟩ (own_p0_g fc hcs) (g := (mkF m 35 #[.val (.ref a1), .val (.long q1), .second, .val .null] [(.int ((q1.toInt32) &&& (3 : Int32))), (.ref x0)])) rfl rfl (hb hby d8_35) ?_
    subst hΦ
    exact own_retI X6 hx Bd.returns hlk (hb hby d8_36) e6 ⟨rfl, N6, rfl⟩ (by decide) (by decide)
  · rw [own_p1_p hcs]
    show own_Run p e below Φ (T4.setTop (mkF m 26 #[.val (.ref a1), .val (.long q1), .second, .val .null] [(.int (1 : Int32)), (.ref x9)]))
    refine own_aaload X4 hx hZ e4 H7 (j := (1 : Int32)) (v := (.ref x1)) rfl ⟨by decide, by decide⟩ rfl (g := (mkF m 26 #[.val (.ref a1), .val (.long q1), .second, .val .null] [(.int (1 : Int32)), (.ref x9)])) rfl rfl (hb hby d8_26) ?_
    refine own_go (fun t k => XS.aloadN X4.here hx rfl (hb hby d8_27) rfl rfl  k) ?_
    obtain ⟨T7, X7, e7, st7⟩ := getF X4 hx hZ hown (host := "") (Or.inl (hw _ (List.mem_of_getElem? (i := 16) rfl))) Via.refl e4 H3 (g := (mkF m 28 #[.val (.ref a1), .val (.long q1), .second, .val .null] [(.ref a1), (.ref x1)])) rfl rfl (hb hby d8_28)
    refine own_go st7 ?_
    refine own_go (fun t k => XS.lloadN X7.here hx rfl (hb hby d8_31) rfl  k) ?_
    show own_Run p e below Φ (T7.setTop (mkF m 32 #[.val (.ref a1), .val (.long q1), .second, .val .null] [(.long q1), (.ref w1), (.ref x1)]))
    refine own_callV X7 hx hZ (y := (⟨"com/example/hueline/hueline/model/Pages", "offset", "(J)I"⟩ : MethodName)) (z := (⟨"com/example/hueline/hueline/model/Pages", "offset", "(J)I"⟩ : MethodName)) (W := 1) (a := w1) (argsL := [(.long q1)]) (rest := [(.ref x1)]) hown (hw _ (List.mem_of_getElem? (i := 76) rfl)) (hw _ (List.mem_of_getElem? (i := 77) rfl)) (notFace_of_selects (args := #[]) (mvT hZ (hw _ (List.mem_of_getElem? (i := 79) rfl)))) (hw _ (List.mem_of_getElem? (i := 79) rfl)) (hw _ (List.mem_of_getElem? (i := 78) rfl)) (by decide) (own_bk (rm_off l Z a0 hw w1 q1 h0 n0 H6) hZ (hw _ (List.mem_of_getElem? (i := 80) rfl)) (hw _ (List.mem_of_getElem? (i := 8) rfl)) (by decide) (by decide)) e7 H4 (g := (mkF m 32 #[.val (.ref a1), .val (.long q1), .second, .val .null] [(.long q1), (.ref w1), (.ref x1)])) rfl (by rw [hml]; rfl) (lenOf pd_3 rfl) rfl (by show 2 * 0 + _ ≤ _; exact Nat.le_of_eq rfl) (hb hby d8_32) (by decide) (by decide) (fun v8 T8 h8 L8 X8 e8 q8 => ?_)
    obtain ⟨rfl, M8, s8⟩ := q8
    replace e8 : T8.heap = h0 := e8.trans s8
    have N8 := Fr.app N4 M8
    refine own_iaload X8 hx hZ e8 H9 (j := ((q1.toInt32) &&& (3 : Int32))) (v := (.int (fc q1))) ⟨fun q => by have e := own_p1_i (q := q1) hcs; rw [Int32.lt_iff_toInt_lt] at q; simp only [Int32.reduceToInt] at q; omega, by have e := own_p1_i (q := q1) hcs; rw [Int32.lt_iff_toInt_lt]; omega⟩ (own_p1_g fc hcs) (g := (mkF m 35 #[.val (.ref a1), .val (.long q1), .second, .val .null] [(.int ((q1.toInt32) &&& (3 : Int32))), (.ref x1)])) rfl rfl (hb hby d8_35) ?_
    subst hΦ
    exact own_retI X8 hx Bd.returns hlk (hb hby d8_36) e8 ⟨rfl, N8, rfl⟩ (by decide) (by decide)
theorem d7_20 : decode prog_36_method_5_code 20 = .ok (.aload_n 0, 1) := by decide +kernel
theorem d7_21 : decode prog_36_method_5_code 21 = .ok (.getfield 27, 3) := by decide +kernel
theorem d7_24 : decode prog_36_method_5_code 24 = .ok (.aload_n 0, 1) := by decide +kernel
theorem d7_25 : decode prog_36_method_5_code 25 = .ok (.getfield 18, 3) := by decide +kernel
theorem d7_28 : decode prog_36_method_5_code 28 = .ok (.lload_n 1, 1) := by decide +kernel
theorem d7_29 : decode prog_36_method_5_code 29 = .ok (.invokevirtual 41, 3) := by decide +kernel
theorem d7_32 : decode prog_36_method_5_code 32 = .ok (.aaload, 1) := by decide +kernel
theorem d7_33 : decode prog_36_method_5_code 33 = .ok (.aload_n 0, 1) := by decide +kernel
theorem d7_34 : decode prog_36_method_5_code 34 = .ok (.getfield 18, 3) := by decide +kernel
theorem d7_37 : decode prog_36_method_5_code 37 = .ok (.lload_n 1, 1) := by decide +kernel
theorem d7_38 : decode prog_36_method_5_code 38 = .ok (.invokevirtual 44, 3) := by decide +kernel
theorem d7_41 : decode prog_36_method_5_code 41 = .ok (.iload_n 3, 1) := by decide +kernel
theorem d7_42 : decode prog_36_method_5_code 42 = .ok (.iastore, 1) := by decide +kernel
set_option maxRecDepth 65536 in
set_option maxHeartbeats 40000000 in
theorem rm_set2 (l : Launch) (Z : State) (a0 : Array Value) (hw : ∀ d ∈ tables_1, d.before a0 Z = true) (a1 : Addr) (q1 : Int64) (p3 : Int32) (w1 : Addr) (x9 : Addr) (k9 : ClassId) (x0 : Addr) (k0 : ClassId) (x1 : Addr) (k1 : ClassId) (zl : Int32) (fc : Int64 → Int32) (h0 : Heap) (n0 : Nat) (H1 : Fld Z h0 a1 "com/example/hueline/hueline/model/BigIntArray" "flat" "[I" .null) (H2 : Fld Z h0 a1 "com/example/hueline/hueline/model/BigIntArray" "pages" "[[I" (.ref x9)) (H3 : Fld Z h0 a1 "com/example/hueline/hueline/model/BigIntArray" "layout" "Lcom/example/hueline/hueline/model/Pages;" (.ref w1)) (H4 : Exa Z h0 w1 "com/example/hueline/hueline/model/Pages") (H5 : Fld Z h0 w1 "com/example/hueline/hueline/model/Pages" "shift" "I" (.int (2 : Int32))) (H6 : Fld Z h0 w1 "com/example/hueline/hueline/model/Pages" "mask" "I" (.int (3 : Int32))) (H7 : Arv Z h0 x9 k9 (.array .int) (2 : Int32) [(.ref x0), (.ref x1)] .null) (H8 : Arv Z h0 x0 k0 .int (4 : Int32) (own_p0 fc) (.int (0 : Int32))) (H9 : Arv Z h0 x1 k1 .int zl (own_p1 fc) (.int (0 : Int32))) (hz : 1 ≤ zl.toInt ∧ zl.toInt ≤ 4) (hq : 0 ≤ q1.toInt ∧ q1.toInt < 4 + zl.toInt) (H12 : n0 ≤ x0) (H13 : n0 ≤ x1) (H14 : x0 ≠ x1) (H15 : w1 ≠ x0) (H16 : w1 ≠ x1) :
    own_Met l Z (⟨"com/example/hueline/hueline/model/BigIntArray", "set", "(JI)V"⟩ : MethodName) prog_36_method_5_code 5 none ({ frames := 1, cells := 0, slots := 0, locals := 15 } : Room) #[(.ref a1), (.long q1), (.int p3)] h0 (fun v h L => v = none ∧ Fr n0 L ∧ Keep h0 h [x0, x1] ∧ Arv Z h x0 k0 .int (4 : Int32) (own_p0 (own_upd fc q1 p3)) (.int (0 : Int32)) ∧ Arv Z h x1 k1 .int zl (own_p1 (own_upd fc q1 p3)) (.int (0 : Int32))) := by
  intro ws
  refine MetFree.of_bodySF (plainFor_of_name pn_c1) hisR ?_
  intro p e s m args below meth c s₁ Bd hml0 hP hK
  obtain ⟨rfl, hZ, hh⟩ := hP
  have hx := Bd.exec
  have hby := Bd.bytes
  have hml : c.maxLocals = 5 := hml0
  have hown : s.vm.findClass "com/example/hueline/hueline/model/BigIntArray" = some m.cls := findClass_of_methodNamed Bd.named
  have hnm := (name_of_methodNamed Bd.named Bd.method).1
  have hlk : meth.locks = false := Bd.notSynchronized
  have X0 : Stand p l e ({ frames := 1, cells := 0, slots := 0, locals := 15 } : Room) s m #[(.ref a1), (.long q1), (.int p3)] below meth c s₁ [] 0 0 := Stand.of_body Bd
  have e0 : s₁.heap = h0 := by rw [← hh, Bd.state]; rfl
  have N0 := Fr.nil n0
  refine own_body (Q := fun v h L => v = none ∧ Fr n0 L ∧ Keep h0 h [x0, x1] ∧ Arv Z h x0 k0 .int (4 : Int32) (own_p0 (own_upd fc q1 p3)) (.int (0 : Int32)) ∧ Arv Z h x1 k1 .int zl (own_p1 (own_upd fc q1 p3)) (.int (0 : Int32))) ?_
  generalize hΦ : own_Fin s below _ _ _ = Φ
  refine own_cast (ef_7_RJI m a1 q1 p3) ?_
  have K0 := Keep.refl h0 [x0, x1]
  show own_Run p e below Φ (s₁.setTop (mkF m 0 #[.val (.ref a1), .val (.long q1), .second, .val (.int p3), .unset] []))
  refine own_go (fun t k => XS.aloadN X0.here hx rfl (hb hby d7_0) rfl rfl  k) ?_
  obtain ⟨T1, X1, e1, st1⟩ := getF X0 hx hZ hown (host := "") (Or.inl (hw _ (List.mem_of_getElem? (i := 47) rfl))) Via.refl e0 H1 (g := (mkF m 1 #[.val (.ref a1), .val (.long q1), .second, .val (.int p3), .unset] [(.ref a1)])) rfl rfl (hb hby d7_1)
  refine own_go st1 ?_
  refine own_go (fun t k => XS.astore X1.here hx rfl (hb hby d7_4) rfl rfl (l' := #[.val (.ref a1), .val (.long q1), .second, .val (.int p3), .val .null]) rfl k) ?_
  refine own_go (fun t k => XS.aload X1.here hx rfl (hb hby d7_6) rfl rfl  k) ?_
  refine own_go (fun t k => XS.ifnullYes X1.here hx rfl (pc0 := 8) (pc' := 20) rfl (hb hby d7_8) rfl (by decide) (by decide) k) ?_
  show own_Run p e below Φ (T1.setTop (mkF m 20 #[.val (.ref a1), .val (.long q1), .second, .val (.int p3), .val .null] []))
  refine own_go (fun t k => XS.aloadN X1.here hx rfl (hb hby d7_20) rfl rfl  k) ?_
  obtain ⟨T2, X2, e2, st2⟩ := getF X1 hx hZ hown (host := "") (Or.inl (hw _ (List.mem_of_getElem? (i := 30) rfl))) Via.refl e1 H2 (g := (mkF m 21 #[.val (.ref a1), .val (.long q1), .second, .val (.int p3), .val .null] [(.ref a1)])) rfl rfl (hb hby d7_21)
  refine own_go st2 ?_
  refine own_go (fun t k => XS.aloadN X2.here hx rfl (hb hby d7_24) rfl rfl  k) ?_
  obtain ⟨T3, X3, e3, st3⟩ := getF X2 hx hZ hown (host := "") (Or.inl (hw _ (List.mem_of_getElem? (i := 16) rfl))) Via.refl e2 H3 (g := (mkF m 25 #[.val (.ref a1), .val (.long q1), .second, .val (.int p3), .val .null] [(.ref a1), (.ref x9)])) rfl rfl (hb hby d7_25)
  refine own_go st3 ?_
  refine own_go (fun t k => XS.lloadN X3.here hx rfl (hb hby d7_28) rfl  k) ?_
  show own_Run p e below Φ (T3.setTop (mkF m 29 #[.val (.ref a1), .val (.long q1), .second, .val (.int p3), .val .null] [(.long q1), (.ref w1), (.ref x9)]))
  refine own_callV X3 hx hZ (y := (⟨"com/example/hueline/hueline/model/Pages", "page", "(J)I"⟩ : MethodName)) (z := (⟨"com/example/hueline/hueline/model/Pages", "page", "(J)I"⟩ : MethodName)) (W := 1) (a := w1) (argsL := [(.long q1)]) (rest := [(.ref x9)]) hown (hw _ (List.mem_of_getElem? (i := 71) rfl)) (hw _ (List.mem_of_getElem? (i := 72) rfl)) (notFace_of_selects (args := #[]) (mvT hZ (hw _ (List.mem_of_getElem? (i := 74) rfl)))) (hw _ (List.mem_of_getElem? (i := 74) rfl)) (hw _ (List.mem_of_getElem? (i := 73) rfl)) (by decide) (own_bk (rm_pag l Z a0 hw w1 q1 h0 n0 H5) hZ (hw _ (List.mem_of_getElem? (i := 75) rfl)) (hw _ (List.mem_of_getElem? (i := 8) rfl)) (by decide) (by decide)) e3 H4 (g := (mkF m 29 #[.val (.ref a1), .val (.long q1), .second, .val (.int p3), .val .null] [(.long q1), (.ref w1), (.ref x9)])) rfl (by rw [hml]; rfl) (lenOf pd_3 rfl) rfl (by show 2 * 0 + _ ≤ _; exact Nat.le_of_eq rfl) (hb hby d7_29) (by decide) (by decide) (fun v4 T4 h4 L4 X4 e4 q4 => ?_)
  obtain ⟨rfl, M4, s4⟩ := q4
  replace e4 : T4.heap = h0 := e4.trans s4
  have N4 := Fr.app N0 M4
  show own_Run p e below Φ (T4.setTop (mkF m 32 #[.val (.ref a1), .val (.long q1), .second, .val (.int p3), .val .null] [(.int (((q1.toUInt64 >>> ((2 : Int32) &&& 0x3f).toInt64.toUInt64).toInt64).toInt32)), (.ref x9)]))
  have hcs : (0 ≤ q1.toInt ∧ q1.toInt < 4) ∨ (4 ≤ q1.toInt ∧ q1.toInt < 8) := by omega
  rcases hcs with hcs | hcs
  · rw [own_p0_p hcs]
    show own_Run p e below Φ (T4.setTop (mkF m 32 #[.val (.ref a1), .val (.long q1), .second, .val (.int p3), .val .null] [(.int (0 : Int32)), (.ref x9)]))
    refine own_aaload X4 hx hZ e4 H7 (j := (0 : Int32)) (v := (.ref x0)) rfl ⟨by decide, by decide⟩ rfl (g := (mkF m 32 #[.val (.ref a1), .val (.long q1), .second, .val (.int p3), .val .null] [(.int (0 : Int32)), (.ref x9)])) rfl rfl (hb hby d7_32) ?_
    refine own_go (fun t k => XS.aloadN X4.here hx rfl (hb hby d7_33) rfl rfl  k) ?_
    obtain ⟨T5, X5, e5, st5⟩ := getF X4 hx hZ hown (host := "") (Or.inl (hw _ (List.mem_of_getElem? (i := 16) rfl))) Via.refl e4 H3 (g := (mkF m 34 #[.val (.ref a1), .val (.long q1), .second, .val (.int p3), .val .null] [(.ref a1), (.ref x0)])) rfl rfl (hb hby d7_34)
    refine own_go st5 ?_
    refine own_go (fun t k => XS.lloadN X5.here hx rfl (hb hby d7_37) rfl  k) ?_
    refine own_callV X5 hx hZ (y := (⟨"com/example/hueline/hueline/model/Pages", "offset", "(J)I"⟩ : MethodName)) (z := (⟨"com/example/hueline/hueline/model/Pages", "offset", "(J)I"⟩ : MethodName)) (W := 1) (a := w1) (argsL := [(.long q1)]) (rest := [(.ref x0)]) hown (hw _ (List.mem_of_getElem? (i := 76) rfl)) (hw _ (List.mem_of_getElem? (i := 77) rfl)) (notFace_of_selects (args := #[]) (mvT hZ (hw _ (List.mem_of_getElem? (i := 79) rfl)))) (hw _ (List.mem_of_getElem? (i := 79) rfl)) (hw _ (List.mem_of_getElem? (i := 78) rfl)) (by decide) (own_bk (rm_off l Z a0 hw w1 q1 h0 n0 H6) hZ (hw _ (List.mem_of_getElem? (i := 80) rfl)) (hw _ (List.mem_of_getElem? (i := 8) rfl)) (by decide) (by decide)) e5 H4 (g := (mkF m 38 #[.val (.ref a1), .val (.long q1), .second, .val (.int p3), .val .null] [(.long q1), (.ref w1), (.ref x0)])) rfl (by rw [hml]; rfl) (lenOf pd_3 rfl) rfl (by show 2 * 0 + _ ≤ _; exact Nat.le_of_eq rfl) (hb hby d7_38) (by decide) (by decide) (fun v6 T6 h6 L6 X6 e6 q6 => ?_)
    obtain ⟨rfl, M6, s6⟩ := q6
    replace e6 : T6.heap = h0 := e6.trans s6
    have N6 := Fr.app N4 M6
    show own_Run p e below Φ (T6.setTop (mkF m 41 #[.val (.ref a1), .val (.long q1), .second, .val (.int p3), .val .null] [(.int ((q1.toInt32) &&& (3 : Int32))), (.ref x0)]))
    refine own_go (fun t k => XS.iloadN X6.here hx rfl (hb hby d7_41) rfl  k) ?_
    refine own_iastore X6 hx hZ e6 H8 (j := ((q1.toInt32) &&& (3 : Int32))) ⟨fun q => by have e := own_p0_i (q := q1) hcs; rw [Int32.lt_iff_toInt_lt] at q; simp only [Int32.reduceToInt] at q; omega, by have e := own_p0_i (q := q1) hcs; rw [Int32.lt_iff_toInt_lt]; simp only [Int32.reduceToInt]; omega⟩ ((q1.toInt32) &&& (3 : Int32)).toNatClampNeg rfl (own_p0_l fc hcs) (g := (mkF m 42 #[.val (.ref a1), .val (.long q1), .second, .val (.int p3), .val .null] [(.int p3), (.int ((q1.toInt32) &&& (3 : Int32))), (.ref x0)])) rfl rfl (hb hby d7_42) (fun T7 h7 X7 e7 W7 V7 => ?_)
    replace V7 : Arv Z h7 x0 k0 .int (4 : Int32) (own_p0 (own_upd fc q1 p3)) (.int (0 : Int32)) := (by rw [← own_p0_s fc p3 hcs]; exact V7)
    have N7 := Fr.snoc X7 N6 H12
    have F8 : Keep h0 h7 [x0, x1] := (K0.wr W7 (Or.inl (List.mem_of_getElem? (i := 0) rfl)))
    have F9 : Arv Z h7 x1 k1 .int zl (own_p1 fc) (.int (0 : Int32)) := (H9.other W7 (Ne.symm H14))
    subst hΦ
    exact own_retV X7 hx Bd.returns hlk (hb hby d7_43) e7 ⟨rfl, N7, F8, V7, (by rw [own_p1_o fc p3 (by omega)]; exact F9)⟩ (by decide) (by decide)
  · rw [own_p1_p hcs]
    show own_Run p e below Φ (T4.setTop (mkF m 32 #[.val (.ref a1), .val (.long q1), .second, .val (.int p3), .val .null] [(.int (1 : Int32)), (.ref x9)]))
    refine own_aaload X4 hx hZ e4 H7 (j := (1 : Int32)) (v := (.ref x1)) rfl ⟨by decide, by decide⟩ rfl (g := (mkF m 32 #[.val (.ref a1), .val (.long q1), .second, .val (.int p3), .val .null] [(.int (1 : Int32)), (.ref x9)])) rfl rfl (hb hby d7_32) ?_
    refine own_go (fun t k => XS.aloadN X4.here hx rfl (hb hby d7_33) rfl rfl  k) ?_
    obtain ⟨T10, X10, e10, st10⟩ := getF X4 hx hZ hown (host := "") (Or.inl (hw _ (List.mem_of_getElem? (i := 16) rfl))) Via.refl e4 H3 (g := (mkF m 34 #[.val (.ref a1), .val (.long q1), .second, .val (.int p3), .val .null] [(.ref a1), (.ref x1)])) rfl rfl (hb hby d7_34)
    refine own_go st10 ?_
    show own_Run p e below Φ (T10.setTop (mkF m 37 #[.val (.ref a1), .val (.long q1), .second, .val (.int p3), .val .null] [(.ref w1), (.ref x1)]))
    refine own_go (fun t k => XS.lloadN X10.here hx rfl (hb hby d7_37) rfl  k) ?_
    refine own_callV X10 hx hZ (y := (⟨"com/example/hueline/hueline/model/Pages", "offset", "(J)I"⟩ : MethodName)) (z := (⟨"com/example/hueline/hueline/model/Pages", "offset", "(J)I"⟩ : MethodName)) (W := 1) (a := w1) (argsL := [(.long q1)]) (rest := [(.ref x1)]) hown (hw _ (List.mem_of_getElem? (i := 76) rfl)) (hw _ (List.mem_of_getElem? (i := 77) rfl)) (notFace_of_selects (args := #[]) (mvT hZ (hw _ (List.mem_of_getElem? (i := 79) rfl)))) (hw _ (List.mem_of_getElem? (i := 79) rfl)) (hw _ (List.mem_of_getElem? (i := 78) rfl)) (by decide) (own_bk (rm_off l Z a0 hw w1 q1 h0 n0 H6) hZ (hw _ (List.mem_of_getElem? (i := 80) rfl)) (hw _ (List.mem_of_getElem? (i := 8) rfl)) (by decide) (by decide)) e10 H4 (g := (mkF m 38 #[.val (.ref a1), .val (.long q1), .second, .val (.int p3), .val .null] [(.long q1), (.ref w1), (.ref x1)])) rfl (by rw [hml]; rfl) (lenOf pd_3 rfl) rfl (by show 2 * 0 + _ ≤ _; exact Nat.le_of_eq rfl) (hb hby d7_38) (by decide) (by decide) (fun v11 T11 h11 L11 X11 e11 q11 => ?_)
    obtain ⟨rfl, M11, s11⟩ := q11
    replace e11 : T11.heap = h0 := e11.trans s11
    have N11 := Fr.app N4 M11
    refine own_go (fun t k => XS.iloadN X11.here hx rfl (hb hby d7_41) rfl  k) ?_
    refine own_iastore X11 hx hZ e11 H9 (j := ((q1.toInt32) &&& (3 : Int32))) ⟨fun q => by have e := own_p1_i (q := q1) hcs; rw [Int32.lt_iff_toInt_lt] at q; simp only [Int32.reduceToInt] at q; omega, by have e := own_p1_i (q := q1) hcs; rw [Int32.lt_iff_toInt_lt]; omega⟩ ((q1.toInt32) &&& (3 : Int32)).toNatClampNeg rfl (own_p1_l fc hcs) (g := (mkF m 42 #[.val (.ref a1), .val (.long q1), .second, .val (.int p3), .val .null] [(.int p3), (.int ((q1.toInt32) &&& (3 : Int32))), (.ref x1)])) rfl rfl (hb hby d7_42) (fun T12 h12 X12 e12 W12 V12 => ?_)
    replace V12 : Arv Z h12 x1 k1 .int zl (own_p1 (own_upd fc q1 p3)) (.int (0 : Int32)) := (by rw [← own_p1_s fc p3 hcs]; exact V12)
    have N12 := Fr.snoc X12 N11 H13
    have F13 : Keep h0 h12 [x0, x1] := (K0.wr W12 (Or.inl (List.mem_of_getElem? (i := 1) rfl)))
    have F14 : Arv Z h12 x0 k0 .int (4 : Int32) (own_p0 fc) (.int (0 : Int32)) := (H8.other W12 H14)
    subst hΦ
    exact own_retV X12 hx Bd.returns hlk (hb hby d7_43) e12 ⟨rfl, N12, F13, (by rw [own_p0_o fc p3 (by omega)]; exact F14), V12⟩ (by decide) (by decide)
set_option maxRecDepth 65536 in
set_option maxHeartbeats 40000000 in
theorem rm_get3 (l : Launch) (Z : State) (a0 : Array Value) (hw : ∀ d ∈ tables_1, d.before a0 Z = true) (a1 : Addr) (q1 : Int64) (w1 : Addr) (x9 : Addr) (k9 : ClassId) (x0 : Addr) (k0 : ClassId) (x1 : Addr) (k1 : ClassId) (x2 : Addr) (k2 : ClassId) (zl : Int32) (fc : Int64 → Int32) (h0 : Heap) (n0 : Nat) (H1 : Fld Z h0 a1 "com/example/hueline/hueline/model/BigIntArray" "flat" "[I" .null) (H2 : Fld Z h0 a1 "com/example/hueline/hueline/model/BigIntArray" "pages" "[[I" (.ref x9)) (H3 : Fld Z h0 a1 "com/example/hueline/hueline/model/BigIntArray" "layout" "Lcom/example/hueline/hueline/model/Pages;" (.ref w1)) (H4 : Exa Z h0 w1 "com/example/hueline/hueline/model/Pages") (H5 : Fld Z h0 w1 "com/example/hueline/hueline/model/Pages" "shift" "I" (.int (2 : Int32))) (H6 : Fld Z h0 w1 "com/example/hueline/hueline/model/Pages" "mask" "I" (.int (3 : Int32))) (H7 : Arv Z h0 x9 k9 (.array .int) (3 : Int32) [(.ref x0), (.ref x1), (.ref x2)] .null) (H8 : Arv Z h0 x0 k0 .int (4 : Int32) (own_p0 fc) (.int (0 : Int32))) (H9 : Arv Z h0 x1 k1 .int (4 : Int32) (own_p1 fc) (.int (0 : Int32))) (H10 : Arv Z h0 x2 k2 .int zl (own_p2 fc) (.int (0 : Int32))) (hz : 1 ≤ zl.toInt ∧ zl.toInt ≤ 4) (hq : 0 ≤ q1.toInt ∧ q1.toInt < 8 + zl.toInt) :
    own_Met l Z (⟨"com/example/hueline/hueline/model/BigIntArray", "get", "(J)I"⟩ : MethodName) prog_36_method_4_code 4 (some .int) ({ frames := 1, cells := 0, slots := 0, locals := 15 } : Room) #[(.ref a1), (.long q1)] h0 (fun v h L => v = some (.int (fc q1)) ∧ Fr n0 L ∧ h = h0) := by
  intro ws
  refine MetFree.of_bodySF (plainFor_of_name pn_c1) hisR ?_
  intro p e s m args below meth c s₁ Bd hml0 hP hK
  obtain ⟨rfl, hZ, hh⟩ := hP
  have hx := Bd.exec
  have hby := Bd.bytes
  have hml : c.maxLocals = 4 := hml0
  have hown : s.vm.findClass "com/example/hueline/hueline/model/BigIntArray" = some m.cls := findClass_of_methodNamed Bd.named
  have hnm := (name_of_methodNamed Bd.named Bd.method).1
  have hlk : meth.locks = false := Bd.notSynchronized
  have X0 : Stand p l e ({ frames := 1, cells := 0, slots := 0, locals := 15 } : Room) s m #[(.ref a1), (.long q1)] below meth c s₁ [] 0 0 := Stand.of_body Bd
  have e0 : s₁.heap = h0 := by rw [← hh, Bd.state]; rfl
  have N0 := Fr.nil n0
  refine own_body (Q := fun v h L => v = some (.int (fc q1)) ∧ Fr n0 L ∧ h = h0) ?_
  generalize hΦ : own_Fin s below _ _ _ = Φ
  refine own_cast (ef_8_RJ m a1 q1) ?_
  show own_Run p e below Φ (s₁.setTop (mkF m 0 #[.val (.ref a1), .val (.long q1), .second, .unset] []))
  refine own_go (fun t k => XS.aloadN X0.here hx rfl (hb hby d8_0) rfl rfl  k) ?_
  obtain ⟨T1, X1, e1, st1⟩ := getF X0 hx hZ hown (host := "") (Or.inl (hw _ (List.mem_of_getElem? (i := 47) rfl))) Via.refl e0 H1 (g := (mkF m 1 #[.val (.ref a1), .val (.long q1), .second, .unset] [(.ref a1)])) rfl rfl (hb hby d8_1)
  refine own_go st1 ?_
  refine own_go (fun t k => XS.astoreN X1.here hx rfl (hb hby d8_4) rfl rfl (l' := #[.val (.ref a1), .val (.long q1), .second, .val .null]) rfl k) ?_
  refine own_go (fun t k => XS.aloadN X1.here hx rfl (hb hby d8_5) rfl rfl  k) ?_
  refine own_go (fun t k => XS.ifnullYes X1.here hx rfl (pc0 := 6) (pc' := 14) rfl (hb hby d8_6) rfl (by decide) (by decide) k) ?_
  show own_Run p e below Φ (T1.setTop (mkF m 14 #[.val (.ref a1), .val (.long q1), .second, .val .null] []))
  refine own_go (fun t k => XS.aloadN X1.here hx rfl (hb hby d8_14) rfl rfl  k) ?_
  obtain ⟨T2, X2, e2, st2⟩ := getF X1 hx hZ hown (host := "") (Or.inl (hw _ (List.mem_of_getElem? (i := 30) rfl))) Via.refl e1 H2 (g := (mkF m 15 #[.val (.ref a1), .val (.long q1), .second, .val .null] [(.ref a1)])) rfl rfl (hb hby d8_15)
  refine own_go st2 ?_
  refine own_go (fun t k => XS.aloadN X2.here hx rfl (hb hby d8_18) rfl rfl  k) ?_
  obtain ⟨T3, X3, e3, st3⟩ := getF X2 hx hZ hown (host := "") (Or.inl (hw _ (List.mem_of_getElem? (i := 16) rfl))) Via.refl e2 H3 (g := (mkF m 19 #[.val (.ref a1), .val (.long q1), .second, .val .null] [(.ref a1), (.ref x9)])) rfl rfl (hb hby d8_19)
  refine own_go st3 ?_
  refine own_go (fun t k => XS.lloadN X3.here hx rfl (hb hby d8_22) rfl  k) ?_
  show own_Run p e below Φ (T3.setTop (mkF m 23 #[.val (.ref a1), .val (.long q1), .second, .val .null] [(.long q1), (.ref w1), (.ref x9)]))
  refine own_callV X3 hx hZ (y := (⟨"com/example/hueline/hueline/model/Pages", "page", "(J)I"⟩ : MethodName)) (z := (⟨"com/example/hueline/hueline/model/Pages", "page", "(J)I"⟩ : MethodName)) (W := 1) (a := w1) (argsL := [(.long q1)]) (rest := [(.ref x9)]) hown (hw _ (List.mem_of_getElem? (i := 71) rfl)) (hw _ (List.mem_of_getElem? (i := 72) rfl)) (notFace_of_selects (args := #[]) (mvT hZ (hw _ (List.mem_of_getElem? (i := 74) rfl)))) (hw _ (List.mem_of_getElem? (i := 74) rfl)) (hw _ (List.mem_of_getElem? (i := 73) rfl)) (by decide) (own_bk (rm_pag l Z a0 hw w1 q1 h0 n0 H5) hZ (hw _ (List.mem_of_getElem? (i := 75) rfl)) (hw _ (List.mem_of_getElem? (i := 8) rfl)) (by decide) (by decide)) e3 H4 (g := (mkF m 23 #[.val (.ref a1), .val (.long q1), .second, .val .null] [(.long q1), (.ref w1), (.ref x9)])) rfl (by rw [hml]; rfl) (lenOf pd_3 rfl) rfl (by show 2 * 0 + _ ≤ _; exact Nat.le_of_eq rfl) (hb hby d8_23) (by decide) (by decide) (fun v4 T4 h4 L4 X4 e4 q4 => ?_)
  obtain ⟨rfl, M4, s4⟩ := q4
  replace e4 : T4.heap = h0 := e4.trans s4
  have N4 := Fr.app N0 M4
  show own_Run p e below Φ (T4.setTop (mkF m 26 #[.val (.ref a1), .val (.long q1), .second, .val .null] [(.int (((q1.toUInt64 >>> ((2 : Int32) &&& 0x3f).toInt64.toUInt64).toInt64).toInt32)), (.ref x9)]))
  have hcs : (0 ≤ q1.toInt ∧ q1.toInt < 4) ∨ (4 ≤ q1.toInt ∧ q1.toInt < 8) ∨ (8 ≤ q1.toInt ∧ q1.toInt < 12) := by omega
  rcases hcs with hcs | hcs | hcs
  · rw [own_p0_p hcs]
    show own_Run p e below Φ (T4.setTop (mkF m 26 #[.val (.ref a1), .val (.long q1), .second, .val .null] [(.int (0 : Int32)), (.ref x9)]))
    refine own_aaload X4 hx hZ e4 H7 (j := (0 : Int32)) (v := (.ref x0)) rfl ⟨by decide, by decide⟩ rfl (g := (mkF m 26 #[.val (.ref a1), .val (.long q1), .second, .val .null] [(.int (0 : Int32)), (.ref x9)])) rfl rfl (hb hby d8_26) ?_
    refine own_go (fun t k => XS.aloadN X4.here hx rfl (hb hby d8_27) rfl rfl  k) ?_
    obtain ⟨T5, X5, e5, st5⟩ := getF X4 hx hZ hown (host := "") (Or.inl (hw _ (List.mem_of_getElem? (i := 16) rfl))) Via.refl e4 H3 (g := (mkF m 28 #[.val (.ref a1), .val (.long q1), .second, .val .null] [(.ref a1), (.ref x0)])) rfl rfl (hb hby d8_28)
    refine own_go st5 ?_
    refine own_go (fun t k => XS.lloadN X5.here hx rfl (hb hby d8_31) rfl  k) ?_
    refine own_callV X5 hx hZ (y := (⟨"com/example/hueline/hueline/model/Pages", "offset", "(J)I"⟩ : MethodName)) (z := (⟨"com/example/hueline/hueline/model/Pages", "offset", "(J)I"⟩ : MethodName)) (W := 1) (a := w1) (argsL := [(.long q1)]) (rest := [(.ref x0)]) hown (hw _ (List.mem_of_getElem? (i := 76) rfl)) (hw _ (List.mem_of_getElem? (i := 77) rfl)) (notFace_of_selects (args := #[]) (mvT hZ (hw _ (List.mem_of_getElem? (i := 79) rfl)))) (hw _ (List.mem_of_getElem? (i := 79) rfl)) (hw _ (List.mem_of_getElem? (i := 78) rfl)) (by decide) (own_bk (rm_off l Z a0 hw w1 q1 h0 n0 H6) hZ (hw _ (List.mem_of_getElem? (i := 80) rfl)) (hw _ (List.mem_of_getElem? (i := 8) rfl)) (by decide) (by decide)) e5 H4 (g := (mkF m 32 #[.val (.ref a1), .val (.long q1), .second, .val .null] [(.long q1), (.ref w1), (.ref x0)])) rfl (by rw [hml]; rfl) (lenOf pd_3 rfl) rfl (by show 2 * 0 + _ ≤ _; exact Nat.le_of_eq rfl) (hb hby d8_32) (by decide) (by decide) (fun v6 T6 h6 L6 X6 e6 q6 => ?_)
    obtain ⟨rfl, M6, s6⟩ := q6
    replace e6 : T6.heap = h0 := e6.trans s6
    have N6 := Fr.app N4 M6
    show own_Run p e below Φ (T6.setTop (mkF m 35 #[.val (.ref a1), .val (.long q1), .second, .val .null] [(.int ((q1.toInt32) &&& (3 : Int32))), (.ref x0)]))
    refine own_iaload X6 hx hZ e6 H8 (j := ((q1.toInt32) &&& (3 : Int32))) (v := (.int (fc q1))) ⟨fun q => by have e := own_p0_i (q := q1) hcs; rw [Int32.lt_iff_toInt_lt] at q; simp only [Int32.reduceToInt] at q; omega, by have e := own_p0_i (q := q1) hcs; rw [Int32.lt_iff_toInt_lt]; simp only [Int32.reduceToInt]; omega⟩ (own_p0_g fc hcs) (g := (mkF m 35 #[.val (.ref a1), .val (.long q1), .second, .val .null] [(.int ((q1.toInt32) &&& (3 : Int32))), (.ref x0)])) rfl rfl (hb hby d8_35) ?_
    subst hΦ
    exact own_retI X6 hx Bd.returns hlk (hb hby d8_36) e6 ⟨rfl, N6, rfl⟩ (by decide) (by decide)
  · rw [own_p1_p hcs]
    show own_Run p e below Φ (T4.setTop (mkF m 26 #[.val (.ref a1), .val (.long q1), .second, .val .null] [(.int (1 : Int32)), (.ref x9)]))
    refine own_aaload X4 hx hZ e4 H7 (j := (1 : Int32)) (v := (.ref x1)) rfl ⟨by decide, by decide⟩ rfl (g := (mkF m 26 #[.val (.ref a1), .val (.long q1), .second, .val .null] [(.int (1 : Int32)), (.ref x9)])) rfl rfl (hb hby d8_26) ?_
    refine own_go (fun t k => XS.aloadN X4.here hx rfl (hb hby d8_27) rfl rfl  k) ?_
    obtain ⟨T7, X7, e7, st7⟩ := getF X4 hx hZ hown (host := "") (Or.inl (hw _ (List.mem_of_getElem? (i := 16) rfl))) Via.refl e4 H3 (g := (mkF m 28 #[.val (.ref a1), .val (.long q1), .second, .val .null] [(.ref a1), (.ref x1)])) rfl rfl (hb hby d8_28)
    refine own_go st7 ?_
    refine own_go (fun t k => XS.lloadN X7.here hx rfl (hb hby d8_31) rfl  k) ?_
    show own_Run p e below Φ (T7.setTop (mkF m 32 #[.val (.ref a1), .val (.long q1), .second, .val .null] [(.long q1), (.ref w1), (.ref x1)]))
    refine own_callV X7 hx hZ (y := (⟨"com/example/hueline/hueline/model/Pages", "offset", "(J)I"⟩ : MethodName)) (z := (⟨"com/example/hueline/hueline/model/Pages", "offset", "(J)I"⟩ : MethodName)) (W := 1) (a := w1) (argsL := [(.long q1)]) (rest := [(.ref x1)]) hown (hw _ (List.mem_of_getElem? (i := 76) rfl)) (hw _ (List.mem_of_getElem? (i := 77) rfl)) (notFace_of_selects (args := #[]) (mvT hZ (hw _ (List.mem_of_getElem? (i := 79) rfl)))) (hw _ (List.mem_of_getElem? (i := 79) rfl)) (hw _ (List.mem_of_getElem? (i := 78) rfl)) (by decide) (own_bk (rm_off l Z a0 hw w1 q1 h0 n0 H6) hZ (hw _ (List.mem_of_getElem? (i := 80) rfl)) (hw _ (List.mem_of_getElem? (i := 8) rfl)) (by decide) (by decide)) e7 H4 (g := (mkF m 32 #[.val (.ref a1), .val (.long q1), .second, .val .null] [(.long q1), (.ref w1), (.ref x1)])) rfl (by rw [hml]; rfl) (lenOf pd_3 rfl) rfl (by show 2 * 0 + _ ≤ _; exact Nat.le_of_eq rfl) (hb hby d8_32) (by decide) (by decide) (fun v8 T8 h8 L8 X8 e8 q8 => ?_)
    obtain ⟨rfl, M8, s8⟩ := q8
    replace e8 : T8.heap = h0 := e8.trans s8
    have N8 := Fr.app N4 M8
    refine own_iaload X8 hx hZ e8 H9 (j := ((q1.toInt32) &&& (3 : Int32))) (v := (.int (fc q1))) ⟨fun q => by have e := own_p1_i (q := q1) hcs; rw [Int32.lt_iff_toInt_lt] at q; simp only [Int32.reduceToInt] at q; omega, by have e := own_p1_i (q := q1) hcs; rw [Int32.lt_iff_toInt_lt]; simp only [Int32.reduceToInt]; omega⟩ (own_p1_g fc hcs) (g := (mkF m 35 #[.val (.ref a1), .val (.long q1), .second, .val .null] [(.int ((q1.toInt32) &&& (3 : Int32))), (.ref x1)])) rfl rfl (hb hby d8_35) ?_
    subst hΦ
    exact own_retI X8 hx Bd.returns hlk (hb hby d8_36) e8 ⟨rfl, N8, rfl⟩ (by decide) (by decide)
  · rw [own_p2_p hcs]
    show own_Run p e below Φ (T4.setTop (mkF m 26 #[.val (.ref a1), .val (.long q1), .second, .val .null] [(.int (2 : Int32)), (.ref x9)]))
    refine own_aaload X4 hx hZ e4 H7 (j := (2 : Int32)) (v := (.ref x2)) rfl ⟨by decide, by decide⟩ rfl (g := (mkF m 26 #[.val (.ref a1), .val (.long q1), .second, .val .null] [(.int (2 : Int32)), (.ref x9)])) rfl rfl (hb hby d8_26) ?_
    refine own_go (fun t k => XS.aloadN X4.here hx rfl (hb hby d8_27) rfl rfl  k) ?_
    obtain ⟨T9, X9, e9, st9⟩ := getF X4 hx hZ hown (host := "") (Or.inl (hw _ (List.mem_of_getElem? (i := 16) rfl))) Via.refl e4 H3 (g := (mkF m 28 #[.val (.ref a1), .val (.long q1), .second, .val .null] [(.ref a1), (.ref x2)])) rfl rfl (hb hby d8_28)
    refine own_go st9 ?_
    show own_Run p e below Φ (T9.setTop (mkF m 31 #[.val (.ref a1), .val (.long q1), .second, .val .null] [(.ref w1), (.ref x2)]))
    refine own_go (fun t k => XS.lloadN X9.here hx rfl (hb hby d8_31) rfl  k) ?_
    refine own_callV X9 hx hZ (y := (⟨"com/example/hueline/hueline/model/Pages", "offset", "(J)I"⟩ : MethodName)) (z := (⟨"com/example/hueline/hueline/model/Pages", "offset", "(J)I"⟩ : MethodName)) (W := 1) (a := w1) (argsL := [(.long q1)]) (rest := [(.ref x2)]) hown (hw _ (List.mem_of_getElem? (i := 76) rfl)) (hw _ (List.mem_of_getElem? (i := 77) rfl)) (notFace_of_selects (args := #[]) (mvT hZ (hw _ (List.mem_of_getElem? (i := 79) rfl)))) (hw _ (List.mem_of_getElem? (i := 79) rfl)) (hw _ (List.mem_of_getElem? (i := 78) rfl)) (by decide) (own_bk (rm_off l Z a0 hw w1 q1 h0 n0 H6) hZ (hw _ (List.mem_of_getElem? (i := 80) rfl)) (hw _ (List.mem_of_getElem? (i := 8) rfl)) (by decide) (by decide)) e9 H4 (g := (mkF m 32 #[.val (.ref a1), .val (.long q1), .second, .val .null] [(.long q1), (.ref w1), (.ref x2)])) rfl (by rw [hml]; rfl) (lenOf pd_3 rfl) rfl (by show 2 * 0 + _ ≤ _; exact Nat.le_of_eq rfl) (hb hby d8_32) (by decide) (by decide) (fun v10 T10 h10 L10 X10 e10 q10 => ?_)
    obtain ⟨rfl, M10, s10⟩ := q10
    replace e10 : T10.heap = h0 := e10.trans s10
    have N10 := Fr.app N4 M10
    refine own_iaload X10 hx hZ e10 H10 (j := ((q1.toInt32) &&& (3 : Int32))) (v := (.int (fc q1))) ⟨fun q => by have e := own_p2_i (q := q1) hcs; rw [Int32.lt_iff_toInt_lt] at q; simp only [Int32.reduceToInt] at q; omega, by have e := own_p2_i (q := q1) hcs; rw [Int32.lt_iff_toInt_lt]; omega⟩ (own_p2_g fc hcs) (g := (mkF m 35 #[.val (.ref a1), .val (.long q1), .second, .val .null] [(.int ((q1.toInt32) &&& (3 : Int32))), (.ref x2)])) rfl rfl (hb hby d8_35) ?_
    subst hΦ
    exact own_retI X10 hx Bd.returns hlk (hb hby d8_36) e10 ⟨rfl, N10, rfl⟩ (by decide) (by decide)
set_option maxRecDepth 65536 in
set_option maxHeartbeats 40000000 in
theorem rm_set3 (l : Launch) (Z : State) (a0 : Array Value) (hw : ∀ d ∈ tables_1, d.before a0 Z = true) (a1 : Addr) (q1 : Int64) (p3 : Int32) (w1 : Addr) (x9 : Addr) (k9 : ClassId) (x0 : Addr) (k0 : ClassId) (x1 : Addr) (k1 : ClassId) (x2 : Addr) (k2 : ClassId) (zl : Int32) (fc : Int64 → Int32) (h0 : Heap) (n0 : Nat) (H1 : Fld Z h0 a1 "com/example/hueline/hueline/model/BigIntArray" "flat" "[I" .null) (H2 : Fld Z h0 a1 "com/example/hueline/hueline/model/BigIntArray" "pages" "[[I" (.ref x9)) (H3 : Fld Z h0 a1 "com/example/hueline/hueline/model/BigIntArray" "layout" "Lcom/example/hueline/hueline/model/Pages;" (.ref w1)) (H4 : Exa Z h0 w1 "com/example/hueline/hueline/model/Pages") (H5 : Fld Z h0 w1 "com/example/hueline/hueline/model/Pages" "shift" "I" (.int (2 : Int32))) (H6 : Fld Z h0 w1 "com/example/hueline/hueline/model/Pages" "mask" "I" (.int (3 : Int32))) (H7 : Arv Z h0 x9 k9 (.array .int) (3 : Int32) [(.ref x0), (.ref x1), (.ref x2)] .null) (H8 : Arv Z h0 x0 k0 .int (4 : Int32) (own_p0 fc) (.int (0 : Int32))) (H9 : Arv Z h0 x1 k1 .int (4 : Int32) (own_p1 fc) (.int (0 : Int32))) (H10 : Arv Z h0 x2 k2 .int zl (own_p2 fc) (.int (0 : Int32))) (hz : 1 ≤ zl.toInt ∧ zl.toInt ≤ 4) (hq : 0 ≤ q1.toInt ∧ q1.toInt < 8 + zl.toInt) (H13 : n0 ≤ x0) (H14 : n0 ≤ x1) (H15 : n0 ≤ x2) (H16 : x0 ≠ x1) (H17 : x0 ≠ x2) (H18 : x1 ≠ x2) (H19 : w1 ≠ x0) (H20 : w1 ≠ x1) (H21 : w1 ≠ x2) :
    own_Met l Z (⟨"com/example/hueline/hueline/model/BigIntArray", "set", "(JI)V"⟩ : MethodName) prog_36_method_5_code 5 none ({ frames := 1, cells := 0, slots := 0, locals := 15 } : Room) #[(.ref a1), (.long q1), (.int p3)] h0 (fun v h L => v = none ∧ Fr n0 L ∧ Keep h0 h [x0, x1, x2] ∧ Arv Z h x0 k0 .int (4 : Int32) (own_p0 (own_upd fc q1 p3)) (.int (0 : Int32)) ∧ Arv Z h x1 k1 .int (4 : Int32) (own_p1 (own_upd fc q1 p3)) (.int (0 : Int32)) ∧ Arv Z h x2 k2 .int zl (own_p2 (own_upd fc q1 p3)) (.int (0 : Int32))) := by
  intro ws
  refine MetFree.of_bodySF (plainFor_of_name pn_c1) hisR ?_
  intro p e s m args below meth c s₁ Bd hml0 hP hK
  obtain ⟨rfl, hZ, hh⟩ := hP
  have hx := Bd.exec
  have hby := Bd.bytes
  have hml : c.maxLocals = 5 := hml0
  have hown : s.vm.findClass "com/example/hueline/hueline/model/BigIntArray" = some m.cls := findClass_of_methodNamed Bd.named
  have hnm := (name_of_methodNamed Bd.named Bd.method).1
  have hlk : meth.locks = false := Bd.notSynchronized
  have X0 : Stand p l e ({ frames := 1, cells := 0, slots := 0, locals := 15 } : Room) s m #[(.ref a1), (.long q1), (.int p3)] below meth c s₁ [] 0 0 := Stand.of_body Bd
  have e0 : s₁.heap = h0 := by rw [← hh, Bd.state]; rfl
  have N0 := Fr.nil n0
  refine own_body (Q := fun v h L => v = none ∧ Fr n0 L ∧ Keep h0 h [x0, x1, x2] ∧ Arv Z h x0 k0 .int (4 : Int32) (own_p0 (own_upd fc q1 p3)) (.int (0 : Int32)) ∧ Arv Z h x1 k1 .int (4 : Int32) (own_p1 (own_upd fc q1 p3)) (.int (0 : Int32)) ∧ Arv Z h x2 k2 .int zl (own_p2 (own_upd fc q1 p3)) (.int (0 : Int32))) ?_
  generalize hΦ : own_Fin s below _ _ _ = Φ
  refine own_cast (ef_7_RJI m a1 q1 p3) ?_
  have K0 := Keep.refl h0 [x0, x1, x2]
  show own_Run p e below Φ (s₁.setTop (mkF m 0 #[.val (.ref a1), .val (.long q1), .second, .val (.int p3), .unset] []))
  refine own_go (fun t k => XS.aloadN X0.here hx rfl (hb hby d7_0) rfl rfl  k) ?_
  obtain ⟨T1, X1, e1, st1⟩ := getF X0 hx hZ hown (host := "") (Or.inl (hw _ (List.mem_of_getElem? (i := 47) rfl))) Via.refl e0 H1 (g := (mkF m 1 #[.val (.ref a1), .val (.long q1), .second, .val (.int p3), .unset] [(.ref a1)])) rfl rfl (hb hby d7_1)
  refine own_go st1 ?_
  refine own_go (fun t k => XS.astore X1.here hx rfl (hb hby d7_4) rfl rfl (l' := #[.val (.ref a1), .val (.long q1), .second, .val (.int p3), .val .null]) rfl k) ?_
  refine own_go (fun t k => XS.aload X1.here hx rfl (hb hby d7_6) rfl rfl  k) ?_
  refine own_go (fun t k => XS.ifnullYes X1.here hx rfl (pc0 := 8) (pc' := 20) rfl (hb hby d7_8) rfl (by decide) (by decide) k) ?_
  show own_Run p e below Φ (T1.setTop (mkF m 20 #[.val (.ref a1), .val (.long q1), .second, .val (.int p3), .val .null] []))
  refine own_go (fun t k => XS.aloadN X1.here hx rfl (hb hby d7_20) rfl rfl  k) ?_
  obtain ⟨T2, X2, e2, st2⟩ := getF X1 hx hZ hown (host := "") (Or.inl (hw _ (List.mem_of_getElem? (i := 30) rfl))) Via.refl e1 H2 (g := (mkF m 21 #[.val (.ref a1), .val (.long q1), .second, .val (.int p3), .val .null] [(.ref a1)])) rfl rfl (hb hby d7_21)
  refine own_go st2 ?_
  refine own_go (fun t k => XS.aloadN X2.here hx rfl (hb hby d7_24) rfl rfl  k) ?_
  obtain ⟨T3, X3, e3, st3⟩ := getF X2 hx hZ hown (host := "") (Or.inl (hw _ (List.mem_of_getElem? (i := 16) rfl))) Via.refl e2 H3 (g := (mkF m 25 #[.val (.ref a1), .val (.long q1), .second, .val (.int p3), .val .null] [(.ref a1), (.ref x9)])) rfl rfl (hb hby d7_25)
  refine own_go st3 ?_
  refine own_go (fun t k => XS.lloadN X3.here hx rfl (hb hby d7_28) rfl  k) ?_
  show own_Run p e below Φ (T3.setTop (mkF m 29 #[.val (.ref a1), .val (.long q1), .second, .val (.int p3), .val .null] [(.long q1), (.ref w1), (.ref x9)]))
  refine own_callV X3 hx hZ (y := (⟨"com/example/hueline/hueline/model/Pages", "page", "(J)I"⟩ : MethodName)) (z := (⟨"com/example/hueline/hueline/model/Pages", "page", "(J)I"⟩ : MethodName)) (W := 1) (a := w1) (argsL := [(.long q1)]) (rest := [(.ref x9)]) hown (hw _ (List.mem_of_getElem? (i := 71) rfl)) (hw _ (List.mem_of_getElem? (i := 72) rfl)) (notFace_of_selects (args := #[]) (mvT hZ (hw _ (List.mem_of_getElem? (i := 74) rfl)))) (hw _ (List.mem_of_getElem? (i := 74) rfl)) (hw _ (List.mem_of_getElem? (i := 73) rfl)) (by decide) (own_bk (rm_pag l Z a0 hw w1 q1 h0 n0 H5) hZ (hw _ (List.mem_of_getElem? (i := 75) rfl)) (hw _ (List.mem_of_getElem? (i := 8) rfl)) (by decide) (by decide)) e3 H4 (g := (mkF m 29 #[.val (.ref a1), .val (.long q1), .second, .val (.int p3), .val .null] [(.long q1), (.ref w1), (.ref x9)])) rfl (by rw [hml]; rfl) (lenOf pd_3 rfl) rfl (by show 2 * 0 + _ ≤ _; exact Nat.le_of_eq rfl) (hb hby d7_29) (by decide) (by decide) (fun v4 T4 h4 L4 X4 e4 q4 => ?_)
  obtain ⟨rfl, M4, s4⟩ := q4
  replace e4 : T4.heap = h0 := e4.trans s4
  have N4 := Fr.app N0 M4
  show own_Run p e below Φ (T4.setTop (mkF m 32 #[.val (.ref a1), .val (.long q1), .second, .val (.int p3), .val .null] [(.int (((q1.toUInt64 >>> ((2 : Int32) &&& 0x3f).toInt64.toUInt64).toInt64).toInt32)), (.ref x9)]))
  have hcs : (0 ≤ q1.toInt ∧ q1.toInt < 4) ∨ (4 ≤ q1.toInt ∧ q1.toInt < 8) ∨ (8 ≤ q1.toInt ∧ q1.toInt < 12) := by omega
  rcases hcs with hcs | hcs | hcs
  · rw [own_p0_p hcs]
    show own_Run p e below Φ (T4.setTop (mkF m 32 #[.val (.ref a1), .val (.long q1), .second, .val (.int p3), .val .null] [(.int (0 : Int32)), (.ref x9)]))
    refine own_aaload X4 hx hZ e4 H7 (j := (0 : Int32)) (v := (.ref x0)) rfl ⟨by decide, by decide⟩ rfl (g := (mkF m 32 #[.val (.ref a1), .val (.long q1), .second, .val (.int p3), .val .null] [(.int (0 : Int32)), (.ref x9)])) rfl rfl (hb hby d7_32) ?_
    refine own_go (fun t k => XS.aloadN X4.here hx rfl (hb hby d7_33) rfl rfl  k) ?_
    obtain ⟨T5, X5, e5, st5⟩ := getF X4 hx hZ hown (host := "") (Or.inl (hw _ (List.mem_of_getElem? (i := 16) rfl))) Via.refl e4 H3 (g := (mkF m 34 #[.val (.ref a1), .val (.long q1), .second, .val (.int p3), .val .null] [(.ref a1), (.ref x0)])) rfl rfl (hb hby d7_34)
    refine own_go st5 ?_
    refine own_go (fun t k => XS.lloadN X5.here hx rfl (hb hby d7_37) rfl  k) ?_
    refine own_callV X5 hx hZ (y := (⟨"com/example/hueline/hueline/model/Pages", "offset", "(J)I"⟩ : MethodName)) (z := (⟨"com/example/hueline/hueline/model/Pages", "offset", "(J)I"⟩ : MethodName)) (W := 1) (a := w1) (argsL := [(.long q1)]) (rest := [(.ref x0)]) hown (hw _ (List.mem_of_getElem? (i := 76) rfl)) (hw _ (List.mem_of_getElem? (i := 77) rfl)) (notFace_of_selects (args := #[]) (mvT hZ (hw _ (List.mem_of_getElem? (i := 79) rfl)))) (hw _ (List.mem_of_getElem? (i := 79) rfl)) (hw _ (List.mem_of_getElem? (i := 78) rfl)) (by decide) (own_bk (rm_off l Z a0 hw w1 q1 h0 n0 H6) hZ (hw _ (List.mem_of_getElem? (i := 80) rfl)) (hw _ (List.mem_of_getElem? (i := 8) rfl)) (by decide) (by decide)) e5 H4 (g := (mkF m 38 #[.val (.ref a1), .val (.long q1), .second, .val (.int p3), .val .null] [(.long q1), (.ref w1), (.ref x0)])) rfl (by rw [hml]; rfl) (lenOf pd_3 rfl) rfl (by show 2 * 0 + _ ≤ _; exact Nat.le_of_eq rfl) (hb hby d7_38) (by decide) (by decide) (fun v6 T6 h6 L6 X6 e6 q6 => ?_)
    obtain ⟨rfl, M6, s6⟩ := q6
    replace e6 : T6.heap = h0 := e6.trans s6
    have N6 := Fr.app N4 M6
    show own_Run p e below Φ (T6.setTop (mkF m 41 #[.val (.ref a1), .val (.long q1), .second, .val (.int p3), .val .null] [(.int ((q1.toInt32) &&& (3 : Int32))), (.ref x0)]))
    refine own_go (fun t k => XS.iloadN X6.here hx rfl (hb hby d7_41) rfl  k) ?_
    refine own_iastore X6 hx hZ e6 H8 (j := ((q1.toInt32) &&& (3 : Int32))) ⟨fun q => by have e := own_p0_i (q := q1) hcs; rw [Int32.lt_iff_toInt_lt] at q; simp only [Int32.reduceToInt] at q; omega, by have e := own_p0_i (q := q1) hcs; rw [Int32.lt_iff_toInt_lt]; simp only [Int32.reduceToInt]; omega⟩ ((q1.toInt32) &&& (3 : Int32)).toNatClampNeg rfl (own_p0_l fc hcs) (g := (mkF m 42 #[.val (.ref a1), .val (.long q1), .second, .val (.int p3), .val .null] [(.int p3), (.int ((q1.toInt32) &&& (3 : Int32))), (.ref x0)])) rfl rfl (hb hby d7_42) (fun T7 h7 X7 e7 W7 V7 => ?_)
    replace V7 : Arv Z h7 x0 k0 .int (4 : Int32) (own_p0 (own_upd fc q1 p3)) (.int (0 : Int32)) := (by rw [← own_p0_s fc p3 hcs]; exact V7)
    have N7 := Fr.snoc X7 N6 H13
    have F8 : Keep h0 h7 [x0, x1, x2] := (K0.wr W7 (Or.inl (List.mem_of_getElem? (i := 0) rfl)))
    have F9 : Arv Z h7 x1 k1 .int (4 : Int32) (own_p1 fc) (.int (0 : Int32)) := (H9.other W7 (Ne.symm H16))
    have F10 : Arv Z h7 x2 k2 .int zl (own_p2 fc) (.int (0 : Int32)) := (H10.other W7 (Ne.symm H17))
    subst hΦ
    exact own_retV X7 hx Bd.returns hlk (hb hby d7_43) e7 ⟨rfl, N7, F8, V7, (by rw [own_p1_o fc p3 (by omega)]; exact F9), (by rw [own_p2_o fc p3 (by omega)]; exact F10)⟩ (by decide) (by decide)
  · rw [own_p1_p hcs]
    show own_Run p e below Φ (T4.setTop (mkF m 32 #[.val (.ref a1), .val (.long q1), .second, .val (.int p3), .val .null] [(.int (1 : Int32)), (.ref x9)]))
    refine own_aaload X4 hx hZ e4 H7 (j := (1 : Int32)) (v := (.ref x1)) rfl ⟨by decide, by decide⟩ rfl (g := (mkF m 32 #[.val (.ref a1), .val (.long q1), .second, .val (.int p3), .val .null] [(.int (1 : Int32)), (.ref x9)])) rfl rfl (hb hby d7_32) ?_
    refine own_go (fun t k => XS.aloadN X4.here hx rfl (hb hby d7_33) rfl rfl  k) ?_
    obtain ⟨T11, X11, e11, st11⟩ := getF X4 hx hZ hown (host := "") (Or.inl (hw _ (List.mem_of_getElem? (i := 16) rfl))) Via.refl e4 H3 (g := (mkF m 34 #[.val (.ref a1), .val (.long q1), .second, .val (.int p3), .val .null] [(.ref a1), (.ref x1)])) rfl rfl (hb hby d7_34)
    refine own_go st11 ?_
    show own_Run p e below Φ (T11.setTop (mkF m 37 #[.val (.ref a1), .val (.long q1), .second, .val (.int p3), .val .null] [(.ref w1), (.ref x1)]))
    refine own_go (fun t k => XS.lloadN X11.here hx rfl (hb hby d7_37) rfl  k) ?_
    refine own_callV X11 hx hZ (y := (⟨"com/example/hueline/hueline/model/Pages", "offset", "(J)I"⟩ : MethodName)) (z := (⟨"com/example/hueline/hueline/model/Pages", "offset", "(J)I"⟩ : MethodName)) (W := 1) (a := w1) (argsL := [(.long q1)]) (rest := [(.ref x1)]) hown (hw _ (List.mem_of_getElem? (i := 76) rfl)) (hw _ (List.mem_of_getElem? (i := 77) rfl)) (notFace_of_selects (args := #[]) (mvT hZ (hw _ (List.mem_of_getElem? (i := 79) rfl)))) (hw _ (List.mem_of_getElem? (i := 79) rfl)) (hw _ (List.mem_of_getElem? (i := 78) rfl)) (by decide) (own_bk (rm_off l Z a0 hw w1 q1 h0 n0 H6) hZ (hw _ (List.mem_of_getElem? (i := 80) rfl)) (hw _ (List.mem_of_getElem? (i := 8) rfl)) (by decide) (by decide)) e11 H4 (g := (mkF m 38 #[.val (.ref a1), .val (.long q1), .second, .val (.int p3), .val .null] [(.long q1), (.ref w1), (.ref x1)])) rfl (by rw [hml]; rfl) (lenOf pd_3 rfl) rfl (by show 2 * 0 + _ ≤ _; exact Nat.le_of_eq rfl) (hb hby d7_38) (by decide) (by decide) (fun v12 T12 h12 L12 X12 e12 q12 => ?_)
    obtain ⟨rfl, M12, s12⟩ := q12
    replace e12 : T12.heap = h0 := e12.trans s12
    have N12 := Fr.app N4 M12
    refine own_go (fun t k => XS.iloadN X12.here hx rfl (hb hby d7_41) rfl  k) ?_
    refine own_iastore X12 hx hZ e12 H9 (j := ((q1.toInt32) &&& (3 : Int32))) ⟨fun q => by have e := own_p1_i (q := q1) hcs; rw [Int32.lt_iff_toInt_lt] at q; simp only [Int32.reduceToInt] at q; omega, by have e := own_p1_i (q := q1) hcs; rw [Int32.lt_iff_toInt_lt]; simp only [Int32.reduceToInt]; omega⟩ ((q1.toInt32) &&& (3 : Int32)).toNatClampNeg rfl (own_p1_l fc hcs) (g := (mkF m 42 #[.val (.ref a1), .val (.long q1), .second, .val (.int p3), .val .null] [(.int p3), (.int ((q1.toInt32) &&& (3 : Int32))), (.ref x1)])) rfl rfl (hb hby d7_42) (fun T13 h13 X13 e13 W13 V13 => ?_)
    replace V13 : Arv Z h13 x1 k1 .int (4 : Int32) (own_p1 (own_upd fc q1 p3)) (.int (0 : Int32)) := (by rw [← own_p1_s fc p3 hcs]; exact V13)
    have N13 := Fr.snoc X13 N12 H14
    have F14 : Keep h0 h13 [x0, x1, x2] := (K0.wr W13 (Or.inl (List.mem_of_getElem? (i := 1) rfl)))
    have F15 : Arv Z h13 x0 k0 .int (4 : Int32) (own_p0 fc) (.int (0 : Int32)) := (H8.other W13 H16)
    have F16 : Arv Z h13 x2 k2 .int zl (own_p2 fc) (.int (0 : Int32)) := (H10.other W13 (Ne.symm H18))
    subst hΦ
    exact own_retV X13 hx Bd.returns hlk (hb hby d7_43) e13 ⟨rfl, N13, F14, (by rw [own_p0_o fc p3 (by omega)]; exact F15), V13, (by rw [own_p2_o fc p3 (by omega)]; exact F16)⟩ (by decide) (by decide)
  · rw [own_p2_p hcs]
    show own_Run p e below Φ (T4.setTop (mkF m 32 #[.val (.ref a1), .val (.long q1), .second, .val (.int p3), .val .null] [(.int (2 : Int32)), (.ref x9)]))
    refine own_aaload X4 hx hZ e4 H7 (j := (2 : Int32)) (v := (.ref x2)) rfl ⟨by decide, by decide⟩ rfl (g := (mkF m 32 #[.val (.ref a1), .val (.long q1), .second, .val (.int p3), .val .null] [(.int (2 : Int32)), (.ref x9)])) rfl rfl (hb hby d7_32) ?_
    show own_Run p e below Φ (T4.setTop (mkF m 33 #[.val (.ref a1), .val (.long q1), .second, .val (.int p3), .val .null] [(.ref x2)]))
    refine own_go (fun t k => XS.aloadN X4.here hx rfl (hb hby d7_33) rfl rfl  k) ?_
    obtain ⟨T17, X17, e17, st17⟩ := getF X4 hx hZ hown (host := "") (Or.inl (hw _ (List.mem_of_getElem? (i := 16) rfl))) Via.refl e4 H3 (g := (mkF m 34 #[.val (.ref a1), .val (.long q1), .second, .val (.int p3), .val .null] [(.ref a1), (.ref x2)])) rfl rfl (hb hby d7_34)
    refine own_go st17 ?_
    refine own_go (fun t k => XS.lloadN X17.here hx rfl (hb hby d7_37) rfl  k) ?_
    refine own_callV X17 hx hZ (y := (⟨"com/example/hueline/hueline/model/Pages", "offset", "(J)I"⟩ : MethodName)) (z := (⟨"com/example/hueline/hueline/model/Pages", "offset", "(J)I"⟩ : MethodName)) (W := 1) (a := w1) (argsL := [(.long q1)]) (rest := [(.ref x2)]) hown (hw _ (List.mem_of_getElem? (i := 76) rfl)) (hw _ (List.mem_of_getElem? (i := 77) rfl)) (notFace_of_selects (args := #[]) (mvT hZ (hw _ (List.mem_of_getElem? (i := 79) rfl)))) (hw _ (List.mem_of_getElem? (i := 79) rfl)) (hw _ (List.mem_of_getElem? (i := 78) rfl)) (by decide) (own_bk (rm_off l Z a0 hw w1 q1 h0 n0 H6) hZ (hw _ (List.mem_of_getElem? (i := 80) rfl)) (hw _ (List.mem_of_getElem? (i := 8) rfl)) (by decide) (by decide)) e17 H4 (g := (mkF m 38 #[.val (.ref a1), .val (.long q1), .second, .val (.int p3), .val .null] [(.long q1), (.ref w1), (.ref x2)])) rfl (by rw [hml]; rfl) (lenOf pd_3 rfl) rfl (by show 2 * 0 + _ ≤ _; exact Nat.le_of_eq rfl) (hb hby d7_38) (by decide) (by decide) (fun v18 T18 h18 L18 X18 e18 q18 => ?_)
    obtain ⟨rfl, M18, s18⟩ := q18
    replace e18 : T18.heap = h0 := e18.trans s18
    have N18 := Fr.app N4 M18
    refine own_go (fun t k => XS.iloadN X18.here hx rfl (hb hby d7_41) rfl  k) ?_
    show own_Run p e below Φ (T18.setTop (mkF m 42 #[.val (.ref a1), .val (.long q1), .second, .val (.int p3), .val .null] [(.int p3), (.int ((q1.toInt32) &&& (3 : Int32))), (.ref x2)]))
    refine own_iastore X18 hx hZ e18 H10 (j := ((q1.toInt32) &&& (3 : Int32))) ⟨fun q => by have e := own_p2_i (q := q1) hcs; rw [Int32.lt_iff_toInt_lt] at q; simp only [Int32.reduceToInt] at q; omega, by have e := own_p2_i (q := q1) hcs; rw [Int32.lt_iff_toInt_lt]; omega⟩ ((q1.toInt32) &&& (3 : Int32)).toNatClampNeg rfl (own_p2_l fc hcs) (g := (mkF m 42 #[.val (.ref a1), .val (.long q1), .second, .val (.int p3), .val .null] [(.int p3), (.int ((q1.toInt32) &&& (3 : Int32))), (.ref x2)])) rfl rfl (hb hby d7_42) (fun T19 h19 X19 e19 W19 V19 => ?_)
    replace V19 : Arv Z h19 x2 k2 .int zl (own_p2 (own_upd fc q1 p3)) (.int (0 : Int32)) := (by rw [← own_p2_s fc p3 hcs]; exact V19)
    have N19 := Fr.snoc X19 N18 H15
    have F20 : Keep h0 h19 [x0, x1, x2] := (K0.wr W19 (Or.inl (List.mem_of_getElem? (i := 2) rfl)))
    have F21 : Arv Z h19 x0 k0 .int (4 : Int32) (own_p0 fc) (.int (0 : Int32)) := (H8.other W19 H17)
    have F22 : Arv Z h19 x1 k1 .int (4 : Int32) (own_p1 fc) (.int (0 : Int32)) := (H9.other W19 H18)
    subst hΦ
    exact own_retV X19 hx Bd.returns hlk (hb hby d7_43) e19 ⟨rfl, N19, F20, (by rw [own_p0_o fc p3 (by omega)]; exact F21), (by rw [own_p1_o fc p3 (by omega)]; exact F22), V19⟩ (by decide) (by decide)
set_option maxRecDepth 65536 in
set_option maxHeartbeats 40000000 in
theorem rm_get4 (l : Launch) (Z : State) (a0 : Array Value) (hw : ∀ d ∈ tables_1, d.before a0 Z = true) (a1 : Addr) (q1 : Int64) (w1 : Addr) (x9 : Addr) (k9 : ClassId) (x0 : Addr) (k0 : ClassId) (x1 : Addr) (k1 : ClassId) (x2 : Addr) (k2 : ClassId) (x3 : Addr) (k3 : ClassId) (zl : Int32) (fc : Int64 → Int32) (h0 : Heap) (n0 : Nat) (H1 : Fld Z h0 a1 "com/example/hueline/hueline/model/BigIntArray" "flat" "[I" .null) (H2 : Fld Z h0 a1 "com/example/hueline/hueline/model/BigIntArray" "pages" "[[I" (.ref x9)) (H3 : Fld Z h0 a1 "com/example/hueline/hueline/model/BigIntArray" "layout" "Lcom/example/hueline/hueline/model/Pages;" (.ref w1)) (H4 : Exa Z h0 w1 "com/example/hueline/hueline/model/Pages") (H5 : Fld Z h0 w1 "com/example/hueline/hueline/model/Pages" "shift" "I" (.int (2 : Int32))) (H6 : Fld Z h0 w1 "com/example/hueline/hueline/model/Pages" "mask" "I" (.int (3 : Int32))) (H7 : Arv Z h0 x9 k9 (.array .int) (4 : Int32) [(.ref x0), (.ref x1), (.ref x2), (.ref x3)] .null) (H8 : Arv Z h0 x0 k0 .int (4 : Int32) (own_p0 fc) (.int (0 : Int32))) (H9 : Arv Z h0 x1 k1 .int (4 : Int32) (own_p1 fc) (.int (0 : Int32))) (H10 : Arv Z h0 x2 k2 .int (4 : Int32) (own_p2 fc) (.int (0 : Int32))) (H11 : Arv Z h0 x3 k3 .int zl (own_p3 fc) (.int (0 : Int32))) (hz : 1 ≤ zl.toInt ∧ zl.toInt ≤ 4) (hq : 0 ≤ q1.toInt ∧ q1.toInt < 12 + zl.toInt) :
    own_Met l Z (⟨"com/example/hueline/hueline/model/BigIntArray", "get", "(J)I"⟩ : MethodName) prog_36_method_4_code 4 (some .int) ({ frames := 1, cells := 0, slots := 0, locals := 15 } : Room) #[(.ref a1), (.long q1)] h0 (fun v h L => v = some (.int (fc q1)) ∧ Fr n0 L ∧ h = h0) := by
  intro ws
  refine MetFree.of_bodySF (plainFor_of_name pn_c1) hisR ?_
  intro p e s m args below meth c s₁ Bd hml0 hP hK
  obtain ⟨rfl, hZ, hh⟩ := hP
  have hx := Bd.exec
  have hby := Bd.bytes
  have hml : c.maxLocals = 4 := hml0
  have hown : s.vm.findClass "com/example/hueline/hueline/model/BigIntArray" = some m.cls := findClass_of_methodNamed Bd.named
  have hnm := (name_of_methodNamed Bd.named Bd.method).1
  have hlk : meth.locks = false := Bd.notSynchronized
  have X0 : Stand p l e ({ frames := 1, cells := 0, slots := 0, locals := 15 } : Room) s m #[(.ref a1), (.long q1)] below meth c s₁ [] 0 0 := Stand.of_body Bd
  have e0 : s₁.heap = h0 := by rw [← hh, Bd.state]; rfl
  have N0 := Fr.nil n0
  refine own_body (Q := fun v h L => v = some (.int (fc q1)) ∧ Fr n0 L ∧ h = h0) ?_
  generalize hΦ : own_Fin s below _ _ _ = Φ
  refine own_cast (ef_8_RJ m a1 q1) ?_
  show own_Run p e below Φ (s₁.setTop (mkF m 0 #[.val (.ref a1), .val (.long q1), .second, .unset] []))
  refine own_go (fun t k => XS.aloadN X0.here hx rfl (hb hby d8_0) rfl rfl  k) ?_
  obtain ⟨T1, X1, e1, st1⟩ := getF X0 hx hZ hown (host := "") (Or.inl (hw _ (List.mem_of_getElem? (i := 47) rfl))) Via.refl e0 H1 (g := (mkF m 1 #[.val (.ref a1), .val (.long q1), .second, .unset] [(.ref a1)])) rfl rfl (hb hby d8_1)
  refine own_go st1 ?_
  refine own_go (fun t k => XS.astoreN X1.here hx rfl (hb hby d8_4) rfl rfl (l' := #[.val (.ref a1), .val (.long q1), .second, .val .null]) rfl k) ?_
  refine own_go (fun t k => XS.aloadN X1.here hx rfl (hb hby d8_5) rfl rfl  k) ?_
  refine own_go (fun t k => XS.ifnullYes X1.here hx rfl (pc0 := 6) (pc' := 14) rfl (hb hby d8_6) rfl (by decide) (by decide) k) ?_
  show own_Run p e below Φ (T1.setTop (mkF m 14 #[.val (.ref a1), .val (.long q1), .second, .val .null] []))
  refine own_go (fun t k => XS.aloadN X1.here hx rfl (hb hby d8_14) rfl rfl  k) ?_
  obtain ⟨T2, X2, e2, st2⟩ := getF X1 hx hZ hown (host := "") (Or.inl (hw _ (List.mem_of_getElem? (i := 30) rfl))) Via.refl e1 H2 (g := (mkF m 15 #[.val (.ref a1), .val (.long q1), .second, .val .null] [(.ref a1)])) rfl rfl (hb hby d8_15)
  refine own_go st2 ?_
  refine own_go (fun t k => XS.aloadN X2.here hx rfl (hb hby d8_18) rfl rfl  k) ?_
  obtain ⟨T3, X3, e3, st3⟩ := getF X2 hx hZ hown (host := "") (Or.inl (hw _ (List.mem_of_getElem? (i := 16) rfl))) Via.refl e2 H3 (g := (mkF m 19 #[.val (.ref a1), .val (.long q1), .second, .val .null] [(.ref a1), (.ref x9)])) rfl rfl (hb hby d8_19)
  refine own_go st3 ?_
  refine own_go (fun t k => XS.lloadN X3.here hx rfl (hb hby d8_22) rfl  k) ?_
  show own_Run p e below Φ (T3.setTop (mkF m 23 #[.val (.ref a1), .val (.long q1), .second, .val .null] [(.long q1), (.ref w1), (.ref x9)]))
  refine own_callV X3 hx hZ (y := (⟨"com/example/hueline/hueline/model/Pages", "page", "(J)I"⟩ : MethodName)) (z := (⟨"com/example/hueline/hueline/model/Pages", "page", "(J)I"⟩ : MethodName)) (W := 1) (a := w1) (argsL := [(.long q1)]) (rest := [(.ref x9)]) hown (hw _ (List.mem_of_getElem? (i := 71) rfl)) (hw _ (List.mem_of_getElem? (i := 72) rfl)) (notFace_of_selects (args := #[]) (mvT hZ (hw _ (List.mem_of_getElem? (i := 74) rfl)))) (hw _ (List.mem_of_getElem? (i := 74) rfl)) (hw _ (List.mem_of_getElem? (i := 73) rfl)) (by decide) (own_bk (rm_pag l Z a0 hw w1 q1 h0 n0 H5) hZ (hw _ (List.mem_of_getElem? (i := 75) rfl)) (hw _ (List.mem_of_getElem? (i := 8) rfl)) (by decide) (by decide)) e3 H4 (g := (mkF m 23 #[.val (.ref a1), .val (.long q1), .second, .val .null] [(.long q1), (.ref w1), (.ref x9)])) rfl (by rw [hml]; rfl) (lenOf pd_3 rfl) rfl (by show 2 * 0 + _ ≤ _; exact Nat.le_of_eq rfl) (hb hby d8_23) (by decide) (by decide) (fun v4 T4 h4 L4 X4 e4 q4 => ?_)
  obtain ⟨rfl, M4, s4⟩ := q4
  replace e4 : T4.heap = h0 := e4.trans s4
  have N4 := Fr.app N0 M4
  show own_Run p e below Φ (T4.setTop (mkF m 26 #[.val (.ref a1), .val (.long q1), .second, .val .null] [(.int (((q1.toUInt64 >>> ((2 : Int32) &&& 0x3f).toInt64.toUInt64).toInt64).toInt32)), (.ref x9)]))
  have hcs : (0 ≤ q1.toInt ∧ q1.toInt < 4) ∨ (4 ≤ q1.toInt ∧ q1.toInt < 8) ∨ (8 ≤ q1.toInt ∧ q1.toInt < 12) ∨ (12 ≤ q1.toInt ∧ q1.toInt < 16) := by omega
  rcases hcs with hcs | hcs | hcs | hcs
  · rw [own_p0_p hcs]
    show own_Run p e below Φ (T4.setTop (mkF m 26 #[.val (.ref a1), .val (.long q1), .second, .val .null] [(.int (0 : Int32)), (.ref x9)]))
    refine own_aaload X4 hx hZ e4 H7 (j := (0 : Int32)) (v := (.ref x0)) rfl ⟨by decide, by decide⟩ rfl (g := (mkF m 26 #[.val (.ref a1), .val (.long q1), .second, .val .null] [(.int (0 : Int32)), (.ref x9)])) rfl rfl (hb hby d8_26) ?_
    refine own_go (fun t k => XS.aloadN X4.here hx rfl (hb hby d8_27) rfl rfl  k) ?_
    obtain ⟨T5, X5, e5, st5⟩ := getF X4 hx hZ hown (host := "") (Or.inl (hw _ (List.mem_of_getElem? (i := 16) rfl))) Via.refl e4 H3 (g := (mkF m 28 #[.val (.ref a1), .val (.long q1), .second, .val .null] [(.ref a1), (.ref x0)])) rfl rfl (hb hby d8_28)
    refine own_go st5 ?_
    refine own_go (fun t k => XS.lloadN X5.here hx rfl (hb hby d8_31) rfl  k) ?_
    refine own_callV X5 hx hZ (y := (⟨"com/example/hueline/hueline/model/Pages", "offset", "(J)I"⟩ : MethodName)) (z := (⟨"com/example/hueline/hueline/model/Pages", "offset", "(J)I"⟩ : MethodName)) (W := 1) (a := w1) (argsL := [(.long q1)]) (rest := [(.ref x0)]) hown (hw _ (List.mem_of_getElem? (i := 76) rfl)) (hw _ (List.mem_of_getElem? (i := 77) rfl)) (notFace_of_selects (args := #[]) (mvT hZ (hw _ (List.mem_of_getElem? (i := 79) rfl)))) (hw _ (List.mem_of_getElem? (i := 79) rfl)) (hw _ (List.mem_of_getElem? (i := 78) rfl)) (by decide) (own_bk (rm_off l Z a0 hw w1 q1 h0 n0 H6) hZ (hw _ (List.mem_of_getElem? (i := 80) rfl)) (hw _ (List.mem_of_getElem? (i := 8) rfl)) (by decide) (by decide)) e5 H4 (g := (mkF m 32 #[.val (.ref a1), .val (.long q1), .second, .val .null] [(.long q1), (.ref w1), (.ref x0)])) rfl (by rw [hml]; rfl) (lenOf pd_3 rfl) rfl (by show 2 * 0 + _ ≤ _; exact Nat.le_of_eq rfl) (hb hby d8_32) (by decide) (by decide) (fun v6 T6 h6 L6 X6 e6 q6 => ?_)
    obtain ⟨rfl, M6, s6⟩ := q6
    replace e6 : T6.heap = h0 := e6.trans s6
    have N6 := Fr.app N4 M6
    show own_Run p e below Φ (T6.setTop (mkF m 35 #[.val (.ref a1), .val (.long q1), .second, .val .null] [(.int ((q1.toInt32) &&& (3 : Int32))), (.ref x0)]))
    refine own_iaload X6 hx hZ e6 H8 (j := ((q1.toInt32) &&& (3 : Int32))) (v := (.int (fc q1))) ⟨fun q => by have e := own_p0_i (q := q1) hcs; rw [Int32.lt_iff_toInt_lt] at q; simp only [Int32.reduceToInt] at q; omega, by have e := own_p0_i (q := q1) hcs; rw [Int32.lt_iff_toInt_lt]; simp only [Int32.reduceToInt]; omega⟩ (own_p0_g fc hcs) (g := (mkF m 35 #[.val (.ref a1), .val (.long q1), .second, .val .null] [(.int ((q1.toInt32) &&& (3 : Int32))), (.ref x0)])) rfl rfl (hb hby d8_35) ?_
    subst hΦ
    exact own_retI X6 hx Bd.returns hlk (hb hby d8_36) e6 ⟨rfl, N6, rfl⟩ (by decide) (by decide)
  · rw [own_p1_p hcs]
    show own_Run p e below Φ (T4.setTop (mkF m 26 #[.val (.ref a1), .val (.long q1), .second, .val .null] [(.int (1 : Int32)), (.ref x9)]))
    refine own_aaload X4 hx hZ e4 H7 (j := (1 : Int32)) (v := (.ref x1)) rfl ⟨by decide, by decide⟩ rfl (g := (mkF m 26 #[.val (.ref a1), .val (.long q1), .second, .val .null] [(.int (1 : Int32)), (.ref x9)])) rfl rfl (hb hby d8_26) ?_
    refine own_go (fun t k => XS.aloadN X4.here hx rfl (hb hby d8_27) rfl rfl  k) ?_
    obtain ⟨T7, X7, e7, st7⟩ := getF X4 hx hZ hown (host := "") (Or.inl (hw _ (List.mem_of_getElem? (i := 16) rfl))) Via.refl e4 H3 (g := (mkF m 28 #[.val (.ref a1), .val (.long q1), .second, .val .null] [(.ref a1), (.ref x1)])) rfl rfl (hb hby d8_28)
    refine own_go st7 ?_
    refine own_go (fun t k => XS.lloadN X7.here hx rfl (hb hby d8_31) rfl  k) ?_
    show own_Run p e below Φ (T7.setTop (mkF m 32 #[.val (.ref a1), .val (.long q1), .second, .val .null] [(.long q1), (.ref w1), (.ref x1)]))
    refine own_callV X7 hx hZ (y := (⟨"com/example/hueline/hueline/model/Pages", "offset", "(J)I"⟩ : MethodName)) (z := (⟨"com/example/hueline/hueline/model/Pages", "offset", "(J)I"⟩ : MethodName)) (W := 1) (a := w1) (argsL := [(.long q1)]) (rest := [(.ref x1)]) hown (hw _ (List.mem_of_getElem? (i := 76) rfl)) (hw _ (List.mem_of_getElem? (i := 77) rfl)) (notFace_of_selects (args := #[]) (mvT hZ (hw _ (List.mem_of_getElem? (i := 79) rfl)))) (hw _ (List.mem_of_getElem? (i := 79) rfl)) (hw _ (List.mem_of_getElem? (i := 78) rfl)) (by decide) (own_bk (rm_off l Z a0 hw w1 q1 h0 n0 H6) hZ (hw _ (List.mem_of_getElem? (i := 80) rfl)) (hw _ (List.mem_of_getElem? (i := 8) rfl)) (by decide) (by decide)) e7 H4 (g := (mkF m 32 #[.val (.ref a1), .val (.long q1), .second, .val .null] [(.long q1), (.ref w1), (.ref x1)])) rfl (by rw [hml]; rfl) (lenOf pd_3 rfl) rfl (by show 2 * 0 + _ ≤ _; exact Nat.le_of_eq rfl) (hb hby d8_32) (by decide) (by decide) (fun v8 T8 h8 L8 X8 e8 q8 => ?_)
    obtain ⟨rfl, M8, s8⟩ := q8
    replace e8 : T8.heap = h0 := e8.trans s8
    have N8 := Fr.app N4 M8
    refine own_iaload X8 hx hZ e8 H9 (j := ((q1.toInt32) &&& (3 : Int32))) (v := (.int (fc q1))) ⟨fun q => by have e := own_p1_i (q := q1) hcs; rw [Int32.lt_iff_toInt_lt] at q; simp only [Int32.reduceToInt] at q; omega, by have e := own_p1_i (q := q1) hcs; rw [Int32.lt_iff_toInt_lt]; simp only [Int32.reduceToInt]; omega⟩ (own_p1_g fc hcs) (g := (mkF m 35 #[.val (.ref a1), .val (.long q1), .second, .val .null] [(.int ((q1.toInt32) &&& (3 : Int32))), (.ref x1)])) rfl rfl (hb hby d8_35) ?_
    subst hΦ
    exact own_retI X8 hx Bd.returns hlk (hb hby d8_36) e8 ⟨rfl, N8, rfl⟩ (by decide) (by decide)
  · rw [own_p2_p hcs]
    show own_Run p e below Φ (T4.setTop (mkF m 26 #[.val (.ref a1), .val (.long q1), .second, .val .null] [(.int (2 : Int32)), (.ref x9)]))
    refine own_aaload X4 hx hZ e4 H7 (j := (2 : Int32)) (v := (.ref x2)) rfl ⟨by decide, by decide⟩ rfl (g := (mkF m 26 #[.val (.ref a1), .val (.long q1), .second, .val .null] [(.int (2 : Int32)), (.ref x9)])) rfl rfl (hb hby d8_26) ?_
    refine own_go (fun t k => XS.aloadN X4.here hx rfl (hb hby d8_27) rfl rfl  k) ?_
    obtain ⟨T9, X9, e9, st9⟩ := getF X4 hx hZ hown (host := "") (Or.inl (hw _ (List.mem_of_getElem? (i := 16) rfl))) Via.refl e4 H3 (g := (mkF m 28 #[.val (.ref a1), .val (.long q1), .second, .val .null] [(.ref a1), (.ref x2)])) rfl rfl (hb hby d8_28)
    refine own_go st9 ?_
    show own_Run p e below Φ (T9.setTop (mkF m 31 #[.val (.ref a1), .val (.long q1), .second, .val .null] [(.ref w1), (.ref x2)]))
    refine own_go (fun t k => XS.lloadN X9.here hx rfl (hb hby d8_31) rfl  k) ?_
    refine own_callV X9 hx hZ (y := (⟨"com/example/hueline/hueline/model/Pages", "offset", "(J)I"⟩ : MethodName)) (z := (⟨"com/example/hueline/hueline/model/Pages", "offset", "(J)I"⟩ : MethodName)) (W := 1) (a := w1) (argsL := [(.long q1)]) (rest := [(.ref x2)]) hown (hw _ (List.mem_of_getElem? (i := 76) rfl)) (hw _ (List.mem_of_getElem? (i := 77) rfl)) (notFace_of_selects (args := #[]) (mvT hZ (hw _ (List.mem_of_getElem? (i := 79) rfl)))) (hw _ (List.mem_of_getElem? (i := 79) rfl)) (hw _ (List.mem_of_getElem? (i := 78) rfl)) (by decide) (own_bk (rm_off l Z a0 hw w1 q1 h0 n0 H6) hZ (hw _ (List.mem_of_getElem? (i := 80) rfl)) (hw _ (List.mem_of_getElem? (i := 8) rfl)) (by decide) (by decide)) e9 H4 (g := (mkF m 32 #[.val (.ref a1), .val (.long q1), .second, .val .null] [(.long q1), (.ref w1), (.ref x2)])) rfl (by rw [hml]; rfl) (lenOf pd_3 rfl) rfl (by show 2 * 0 + _ ≤ _; exact Nat.le_of_eq rfl) (hb hby d8_32) (by decide) (by decide) (fun v10 T10 h10 L10 X10 e10 q10 => ?_)
    obtain ⟨rfl, M10, s10⟩ := q10
    replace e10 : T10.heap = h0 := e10.trans s10
    have N10 := Fr.app N4 M10
    refine own_iaload X10 hx hZ e10 H10 (j := ((q1.toInt32) &&& (3 : Int32))) (v := (.int (fc q1))) ⟨fun q => by have e := own_p2_i (q := q1) hcs; rw [Int32.lt_iff_toInt_lt] at q; simp only [Int32.reduceToInt] at q; omega, by have e := own_p2_i (q := q1) hcs; rw [Int32.lt_iff_toInt_lt]; simp only [Int32.reduceToInt]; omega⟩ (own_p2_g fc hcs) (g := (mkF m 35 #[.val (.ref a1), .val (.long q1), .second, .val .null] [(.int ((q1.toInt32) &&& (3 : Int32))), (.ref x2)])) rfl rfl (hb hby d8_35) ?_
    subst hΦ
    exact own_retI X10 hx Bd.returns hlk (hb hby d8_36) e10 ⟨rfl, N10, rfl⟩ (by decide) (by decide)
  · rw [own_p3_p hcs]
    show own_Run p e below Φ (T4.setTop (mkF m 26 #[.val (.ref a1), .val (.long q1), .second, .val .null] [(.int (3 : Int32)), (.ref x9)]))
    refine own_aaload X4 hx hZ e4 H7 (j := (3 : Int32)) (v := (.ref x3)) rfl ⟨by decide, by decide⟩ rfl (g := (mkF m 26 #[.val (.ref a1), .val (.long q1), .second, .val .null] [(.int (3 : Int32)), (.ref x9)])) rfl rfl (hb hby d8_26) ?_
    refine own_go (fun t k => XS.aloadN X4.here hx rfl (hb hby d8_27) rfl rfl  k) ?_
    show own_Run p e below Φ (T4.setTop (mkF m 28 #[.val (.ref a1), .val (.long q1), .second, .val .null] [(.ref a1), (.ref x3)]))
    obtain ⟨T11, X11, e11, st11⟩ := getF X4 hx hZ hown (host := "") (Or.inl (hw _ (List.mem_of_getElem? (i := 16) rfl))) Via.refl e4 H3 (g := (mkF m 28 #[.val (.ref a1), .val (.long q1), .second, .val .null] [(.ref a1), (.ref x3)])) rfl rfl (hb hby d8_28)
    refine own_go st11 ?_
    refine own_go (fun t k => XS.lloadN X11.here hx rfl (hb hby d8_31) rfl  k) ?_
    refine own_callV X11 hx hZ (y := (⟨"com/example/hueline/hueline/model/Pages", "offset", "(J)I"⟩ : MethodName)) (z := (⟨"com/example/hueline/hueline/model/Pages", "offset", "(J)I"⟩ : MethodName)) (W := 1) (a := w1) (argsL := [(.long q1)]) (rest := [(.ref x3)]) hown (hw _ (List.mem_of_getElem? (i := 76) rfl)) (hw _ (List.mem_of_getElem? (i := 77) rfl)) (notFace_of_selects (args := #[]) (mvT hZ (hw _ (List.mem_of_getElem? (i := 79) rfl)))) (hw _ (List.mem_of_getElem? (i := 79) rfl)) (hw _ (List.mem_of_getElem? (i := 78) rfl)) (by decide) (own_bk (rm_off l Z a0 hw w1 q1 h0 n0 H6) hZ (hw _ (List.mem_of_getElem? (i := 80) rfl)) (hw _ (List.mem_of_getElem? (i := 8) rfl)) (by decide) (by decide)) e11 H4 (g := (mkF m 32 #[.val (.ref a1), .val (.long q1), .second, .val .null] [(.long q1), (.ref w1), (.ref x3)])) rfl (by rw [hml]; rfl) (lenOf pd_3 rfl) rfl (by show 2 * 0 + _ ≤ _; exact Nat.le_of_eq rfl) (hb hby d8_32) (by decide) (by decide) (fun v12 T12 h12 L12 X12 e12 q12 => ?_)
    obtain ⟨rfl, M12, s12⟩ := q12
    replace e12 : T12.heap = h0 := e12.trans s12
    have N12 := Fr.app N4 M12
    refine own_iaload X12 hx hZ e12 H11 (j := ((q1.toInt32) &&& (3 : Int32))) (v := (.int (fc q1))) ⟨fun q => by have e := own_p3_i (q := q1) hcs; rw [Int32.lt_iff_toInt_lt] at q; simp only [Int32.reduceToInt] at q; omega, by have e := own_p3_i (q := q1) hcs; rw [Int32.lt_iff_toInt_lt]; omega⟩ (own_p3_g fc hcs) (g := (mkF m 35 #[.val (.ref a1), .val (.long q1), .second, .val .null] [(.int ((q1.toInt32) &&& (3 : Int32))), (.ref x3)])) rfl rfl (hb hby d8_35) ?_
    subst hΦ
    exact own_retI X12 hx Bd.returns hlk (hb hby d8_36) e12 ⟨rfl, N12, rfl⟩ (by decide) (by decide)
set_option maxRecDepth 65536 in
set_option maxHeartbeats 40000000 in
theorem rm_set4 (l : Launch) (Z : State) (a0 : Array Value) (hw : ∀ d ∈ tables_1, d.before a0 Z = true) (a1 : Addr) (q1 : Int64) (p3 : Int32) (w1 : Addr) (x9 : Addr) (k9 : ClassId) (x0 : Addr) (k0 : ClassId) (x1 : Addr) (k1 : ClassId) (x2 : Addr) (k2 : ClassId) (x3 : Addr) (k3 : ClassId) (zl : Int32) (fc : Int64 → Int32) (h0 : Heap) (n0 : Nat) (H1 : Fld Z h0 a1 "com/example/hueline/hueline/model/BigIntArray" "flat" "[I" .null) (H2 : Fld Z h0 a1 "com/example/hueline/hueline/model/BigIntArray" "pages" "[[I" (.ref x9)) (H3 : Fld Z h0 a1 "com/example/hueline/hueline/model/BigIntArray" "layout" "Lcom/example/hueline/hueline/model/Pages;" (.ref w1)) (H4 : Exa Z h0 w1 "com/example/hueline/hueline/model/Pages") (H5 : Fld Z h0 w1 "com/example/hueline/hueline/model/Pages" "shift" "I" (.int (2 : Int32))) (H6 : Fld Z h0 w1 "com/example/hueline/hueline/model/Pages" "mask" "I" (.int (3 : Int32))) (H7 : Arv Z h0 x9 k9 (.array .int) (4 : Int32) [(.ref x0), (.ref x1), (.ref x2), (.ref x3)] .null) (H8 : Arv Z h0 x0 k0 .int (4 : Int32) (own_p0 fc) (.int (0 : Int32))) (H9 : Arv Z h0 x1 k1 .int (4 : Int32) (own_p1 fc) (.int (0 : Int32))) (H10 : Arv Z h0 x2 k2 .int (4 : Int32) (own_p2 fc) (.int (0 : Int32))) (H11 : Arv Z h0 x3 k3 .int zl (own_p3 fc) (.int (0 : Int32))) (hz : 1 ≤ zl.toInt ∧ zl.toInt ≤ 4) (hq : 0 ≤ q1.toInt ∧ q1.toInt < 12 + zl.toInt) (H14 : n0 ≤ x0) (H15 : n0 ≤ x1) (H16 : n0 ≤ x2) (H17 : n0 ≤ x3) (H18 : x0 ≠ x1) (H19 : x0 ≠ x2) (H20 : x0 ≠ x3) (H21 : x1 ≠ x2) (H22 : x1 ≠ x3) (H23 : x2 ≠ x3) (H24 : w1 ≠ x0) (H25 : w1 ≠ x1) (H26 : w1 ≠ x2) (H27 : w1 ≠ x3) :
    own_Met l Z (⟨"com/example/hueline/hueline/model/BigIntArray", "set", "(JI)V"⟩ : MethodName) prog_36_method_5_code 5 none ({ frames := 1, cells := 0, slots := 0, locals := 15 } : Room) #[(.ref a1), (.long q1), (.int p3)] h0 (fun v h L => v = none ∧ Fr n0 L ∧ Keep h0 h [x0, x1, x2, x3] ∧ Arv Z h x0 k0 .int (4 : Int32) (own_p0 (own_upd fc q1 p3)) (.int (0 : Int32)) ∧ Arv Z h x1 k1 .int (4 : Int32) (own_p1 (own_upd fc q1 p3)) (.int (0 : Int32)) ∧ Arv Z h x2 k2 .int (4 : Int32) (own_p2 (own_upd fc q1 p3)) (.int (0 : Int32)) ∧ Arv Z h x3 k3 .int zl (own_p3 (own_upd fc q1 p3)) (.int (0 : Int32))) := by
  intro ws
  refine MetFree.of_bodySF (plainFor_of_name pn_c1) hisR ?_
  intro p e s m args below meth c s₁ Bd hml0 hP hK
  obtain ⟨rfl, hZ, hh⟩ := hP
  have hx := Bd.exec
  have hby := Bd.bytes
  have hml : c.maxLocals = 5 := hml0
  have hown : s.vm.findClass "com/example/hueline/hueline/model/BigIntArray" = some m.cls := findClass_of_methodNamed Bd.named
  have hnm := (name_of_methodNamed Bd.named Bd.method).1
  have hlk : meth.locks = false := Bd.notSynchronized
  have X0 : Stand p l e ({ frames := 1, cells := 0, slots := 0, locals := 15 } : Room) s m #[(.ref a1), (.long q1), (.int p3)] below meth c s₁ [] 0 0 := Stand.of_body Bd
  have e0 : s₁.heap = h0 := by rw [← hh, Bd.state]; rfl
  have N0 := Fr.nil n0
  refine own_body (Q := fun v h L => v = none ∧ Fr n0 L ∧ Keep h0 h [x0, x1, x2, x3] ∧ Arv Z h x0 k0 .int (4 : Int32) (own_p0 (own_upd fc q1 p3)) (.int (0 : Int32)) ∧ Arv Z h x1 k1 .int (4 : Int32) (own_p1 (own_upd fc q1 p3)) (.int (0 : Int32)) ∧ Arv Z h x2 k2 .int (4 : Int32) (own_p2 (own_upd fc q1 p3)) (.int (0 : Int32)) ∧ Arv Z h x3 k3 .int zl (own_p3 (own_upd fc q1 p3)) (.int (0 : Int32))) ?_
  generalize hΦ : own_Fin s below _ _ _ = Φ
  refine own_cast (ef_7_RJI m a1 q1 p3) ?_
  have K0 := Keep.refl h0 [x0, x1, x2, x3]
  show own_Run p e below Φ (s₁.setTop (mkF m 0 #[.val (.ref a1), .val (.long q1), .second, .val (.int p3), .unset] []))
  refine own_go (fun t k => XS.aloadN X0.here hx rfl (hb hby d7_0) rfl rfl  k) ?_
  obtain ⟨T1, X1, e1, st1⟩ := getF X0 hx hZ hown (host := "") (Or.inl (hw _ (List.mem_of_getElem? (i := 47) rfl))) Via.refl e0 H1 (g := (mkF m 1 #[.val (.ref a1), .val (.long q1), .second, .val (.int p3), .unset] [(.ref a1)])) rfl rfl (hb hby d7_1)
  refine own_go st1 ?_
  refine own_go (fun t k => XS.astore X1.here hx rfl (hb hby d7_4) rfl rfl (l' := #[.val (.ref a1), .val (.long q1), .second, .val (.int p3), .val .null]) rfl k) ?_
  refine own_go (fun t k => XS.aload X1.here hx rfl (hb hby d7_6) rfl rfl  k) ?_
  refine own_go (fun t k => XS.ifnullYes X1.here hx rfl (pc0 := 8) (pc' := 20) rfl (hb hby d7_8) rfl (by decide) (by decide) k) ?_
  show own_Run p e below Φ (T1.setTop (mkF m 20 #[.val (.ref a1), .val (.long q1), .second, .val (.int p3), .val .null] []))
  refine own_go (fun t k => XS.aloadN X1.here hx rfl (hb hby d7_20) rfl rfl  k) ?_
  obtain ⟨T2, X2, e2, st2⟩ := getF X1 hx hZ hown (host := "") (Or.inl (hw _ (List.mem_of_getElem? (i := 30) rfl))) Via.refl e1 H2 (g := (mkF m 21 #[.val (.ref a1), .val (.long q1), .second, .val (.int p3), .val .null] [(.ref a1)])) rfl rfl (hb hby d7_21)
  refine own_go st2 ?_
  refine own_go (fun t k => XS.aloadN X2.here hx rfl (hb hby d7_24) rfl rfl  k) ?_
  obtain ⟨T3, X3, e3, st3⟩ := getF X2 hx hZ hown (host := "") (Or.inl (hw _ (List.mem_of_getElem? (i := 16) rfl))) Via.refl e2 H3 (g := (mkF m 25 #[.val (.ref a1), .val (.long q1), .second, .val (.int p3), .val .null] [(.ref a1), (.ref x9)])) rfl rfl (hb hby d7_25)
  refine own_go st3 ?_
  refine own_go (fun t k => XS.lloadN X3.here hx rfl (hb hby d7_28) rfl  k) ?_
  show own_Run p e below Φ (T3.setTop (mkF m 29 #[.val (.ref a1), .val (.long q1), .second, .val (.int p3), .val .null] [(.long q1), (.ref w1), (.ref x9)]))
  refine own_callV X3 hx hZ (y := (⟨"com/example/hueline/hueline/model/Pages", "page", "(J)I"⟩ : MethodName)) (z := (⟨"com/example/hueline/hueline/model/Pages", "page", "(J)I"⟩ : MethodName)) (W := 1) (a := w1) (argsL := [(.long q1)]) (rest := [(.ref x9)]) hown (hw _ (List.mem_of_getElem? (i := 71) rfl)) (hw _ (List.mem_of_getElem? (i := 72) rfl)) (notFace_of_selects (args := #[]) (mvT hZ (hw _ (List.mem_of_getElem? (i := 74) rfl)))) (hw _ (List.mem_of_getElem? (i := 74) rfl)) (hw _ (List.mem_of_getElem? (i := 73) rfl)) (by decide) (own_bk (rm_pag l Z a0 hw w1 q1 h0 n0 H5) hZ (hw _ (List.mem_of_getElem? (i := 75) rfl)) (hw _ (List.mem_of_getElem? (i := 8) rfl)) (by decide) (by decide)) e3 H4 (g := (mkF m 29 #[.val (.ref a1), .val (.long q1), .second, .val (.int p3), .val .null] [(.long q1), (.ref w1), (.ref x9)])) rfl (by rw [hml]; rfl) (lenOf pd_3 rfl) rfl (by show 2 * 0 + _ ≤ _; exact Nat.le_of_eq rfl) (hb hby d7_29) (by decide) (by decide) (fun v4 T4 h4 L4 X4 e4 q4 => ?_)
  obtain ⟨rfl, M4, s4⟩ := q4
  replace e4 : T4.heap = h0 := e4.trans s4
  have N4 := Fr.app N0 M4
  show own_Run p e below Φ (T4.setTop (mkF m 32 #[.val (.ref a1), .val (.long q1), .second, .val (.int p3), .val .null] [(.int (((q1.toUInt64 >>> ((2 : Int32) &&& 0x3f).toInt64.toUInt64).toInt64).toInt32)), (.ref x9)]))
  have hcs : (0 ≤ q1.toInt ∧ q1.toInt < 4) ∨ (4 ≤ q1.toInt ∧ q1.toInt < 8) ∨ (8 ≤ q1.toInt ∧ q1.toInt < 12) ∨ (12 ≤ q1.toInt ∧ q1.toInt < 16) := by omega
  rcases hcs with hcs | hcs | hcs | hcs
  · rw [own_p0_p hcs]
    show own_Run p e below Φ (T4.setTop (mkF m 32 #[.val (.ref a1), .val (.long q1), .second, .val (.int p3), .val .null] [(.int (0 : Int32)), (.ref x9)]))
    refine own_aaload X4 hx hZ e4 H7 (j := (0 : Int32)) (v := (.ref x0)) rfl ⟨by decide, by decide⟩ rfl (g := (mkF m 32 #[.val (.ref a1), .val (.long q1), .second, .val (.int p3), .val .null] [(.int (0 : Int32)), (.ref x9)])) rfl rfl (hb hby d7_32) ?_
    refine own_go (fun t k => XS.aloadN X4.here hx rfl (hb hby d7_33) rfl rfl  k) ?_
    obtain ⟨T5, X5, e5, st5⟩ := getF X4 hx hZ hown (host := "") (Or.inl (hw _ (List.mem_of_getElem? (i := 16) rfl))) Via.refl e4 H3 (g := (mkF m 34 #[.val (.ref a1), .val (.long q1), .second, .val (.int p3), .val .null] [(.ref a1), (.ref x0)])) rfl rfl (hb hby d7_34)
    refine own_go st5 ?_
    refine own_go (fun t k => XS.lloadN X5.here hx rfl (hb hby d7_37) rfl  k) ?_
    refine own_callV X5 hx hZ (y := (⟨"com/example/hueline/hueline/model/Pages", "offset", "(J)I"⟩ : MethodName)) (z := (⟨"com/example/hueline/hueline/model/Pages", "offset", "(J)I"⟩ : MethodName)) (W := 1) (a := w1) (argsL := [(.long q1)]) (rest := [(.ref x0)]) hown (hw _ (List.mem_of_getElem? (i := 76) rfl)) (hw _ (List.mem_of_getElem? (i := 77) rfl)) (notFace_of_selects (args := #[]) (mvT hZ (hw _ (List.mem_of_getElem? (i := 79) rfl)))) (hw _ (List.mem_of_getElem? (i := 79) rfl)) (hw _ (List.mem_of_getElem? (i := 78) rfl)) (by decide) (own_bk (rm_off l Z a0 hw w1 q1 h0 n0 H6) hZ (hw _ (List.mem_of_getElem? (i := 80) rfl)) (hw _ (List.mem_of_getElem? (i := 8) rfl)) (by decide) (by decide)) e5 H4 (g := (mkF m 38 #[.val (.ref a1), .val (.long q1), .second, .val (.int p3), .val .null] [(.long q1), (.ref w1), (.ref x0)])) rfl (by rw [hml]; rfl) (lenOf pd_3 rfl) rfl (by show 2 * 0 + _ ≤ _; exact Nat.le_of_eq rfl) (hb hby d7_38) (by decide) (by decide) (fun v6 T6 h6 L6 X6 e6 q6 => ?_)
    obtain ⟨rfl, M6, s6⟩ := q6
    replace e6 : T6.heap = h0 := e6.trans s6
    have N6 := Fr.app N4 M6
    show own_Run p e below Φ (T6.setTop (mkF m 41 #[.val (.ref a1), .val (.long q1), .second, .val (.int p3), .val .null] [(.int ((q1.toInt32) &&& (3 : Int32))), (.ref x0)]))
    refine own_go (fun t k => XS.iloadN X6.here hx rfl (hb hby d7_41) rfl  k) ?_
    refine own_iastore X6 hx hZ e6 H8 (j := ((q1.toInt32) &&& (3 : Int32))) ⟨fun q => by have e := own_p0_i (q := q1) hcs; rw [Int32.lt_iff_toInt_lt] at q; simp only [Int32.reduceToInt] at q; omega, by have e := own_p0_i (q := q1) hcs; rw [Int32.lt_iff_toInt_lt]; simp only [Int32.reduceToInt]; omega⟩ ((q1.toInt32) &&& (3 : Int32)).toNatClampNeg rfl (own_p0_l fc hcs) (g := (mkF m 42 #[.val (.ref a1), .val (.long q1), .second, .val (.int p3), .val .null] [(.int p3), (.int ((q1.toInt32) &&& (3 : Int32))), (.ref x0)])) rfl rfl (hb hby d7_42) (fun T7 h7 X7 e7 W7 V7 => ?_)
    replace V7 : Arv Z h7 x0 k0 .int (4 : Int32) (own_p0 (own_upd fc q1 p3)) (.int (0 : Int32)) := (by rw [← own_p0_s fc p3 hcs]; exact V7)
    have N7 := Fr.snoc X7 N6 H14
    have F8 : Keep h0 h7 [x0, x1, x2, x3] := (K0.wr W7 (Or.inl (List.mem_of_getElem? (i := 0) rfl)))
    have F9 : Arv Z h7 x1 k1 .int (4 : Int32) (own_p1 fc) (.int (0 : Int32)) := (H9.other W7 (Ne.symm H18))
    have F10 : Arv Z h7 x2 k2 .int (4 : Int32) (own_p2 fc) (.int (0 : Int32)) := (H10.other W7 (Ne.symm H19))
    have F11 : Arv Z h7 x3 k3 .int zl (own_p3 fc) (.int (0 : Int32)) := (H11.other W7 (Ne.symm H20))
    subst hΦ
    exact own_retV X7 hx Bd.returns hlk (hb hby d7_43) e7 ⟨rfl, N7, F8, V7, (by rw [own_p1_o fc p3 (by omega)]; exact F9), (by rw [own_p2_o fc p3 (by omega)]; exact F10), (by rw [own_p3_o fc p3 (by omega)]; exact F11)⟩ (by decide) (by decide)
  · rw [own_p1_p hcs]
    show own_Run p e below Φ (T4.setTop (mkF m 32 #[.val (.ref a1), .val (.long q1), .second, .val (.int p3), .val .null] [(.int (1 : Int32)), (.ref x9)]))
    refine own_aaload X4 hx hZ e4 H7 (j := (1 : Int32)) (v := (.ref x1)) rfl ⟨by decide, by decide⟩ rfl (g := (mkF m 32 #[.val (.ref a1), .val (.long q1), .second, .val (.int p3), .val .null] [(.int (1 : Int32)), (.ref x9)])) rfl rfl (hb hby d7_32) ?_
    refine own_go (fun t k => XS.aloadN X4.here hx rfl (hb hby d7_33) rfl rfl  k) ?_
    obtain ⟨T12, X12, e12, st12⟩ := getF X4 hx hZ hown (host := "") (Or.inl (hw _ (List.mem_of_getElem? (i := 16) rfl))) Via.refl e4 H3 (g := (mkF m 34 #[.val (.ref a1), .val (.long q1), .second, .val (.int p3), .val .null] [(.ref a1), (.ref x1)])) rfl rfl (hb hby d7_34)
    refine own_go st12 ?_
    show own_Run p e below Φ (T12.setTop (mkF m 37 #[.val (.ref a1), .val (.long q1), .second, .val (.int p3), .val .null] [(.ref w1), (.ref x1)]))
    refine own_go (fun t k => XS.lloadN X12.here hx rfl (hb hby d7_37) rfl  k) ?_
    refine own_callV X12 hx hZ (y := (⟨"com/example/hueline/hueline/model/Pages", "offset", "(J)I"⟩ : MethodName)) (z := (⟨"com/example/hueline/hueline/model/Pages", "offset", "(J)I"⟩ : MethodName)) (W := 1) (a := w1) (argsL := [(.long q1)]) (rest := [(.ref x1)]) hown (hw _ (List.mem_of_getElem? (i := 76) rfl)) (hw _ (List.mem_of_getElem? (i := 77) rfl)) (notFace_of_selects (args := #[]) (mvT hZ (hw _ (List.mem_of_getElem? (i := 79) rfl)))) (hw _ (List.mem_of_getElem? (i := 79) rfl)) (hw _ (List.mem_of_getElem? (i := 78) rfl)) (by decide) (own_bk (rm_off l Z a0 hw w1 q1 h0 n0 H6) hZ (hw _ (List.mem_of_getElem? (i := 80) rfl)) (hw _ (List.mem_of_getElem? (i := 8) rfl)) (by decide) (by decide)) e12 H4 (g := (mkF m 38 #[.val (.ref a1), .val (.long q1), .second, .val (.int p3), .val .null] [(.long q1), (.ref w1), (.ref x1)])) rfl (by rw [hml]; rfl) (lenOf pd_3 rfl) rfl (by show 2 * 0 + _ ≤ _; exact Nat.le_of_eq rfl) (hb hby d7_38) (by decide) (by decide) (fun v13 T13 h13 L13 X13 e13 q13 => ?_)
    obtain ⟨rfl, M13, s13⟩ := q13
    replace e13 : T13.heap = h0 := e13.trans s13
    have N13 := Fr.app N4 M13
    refine own_go (fun t k => XS.iloadN X13.here hx rfl (hb hby d7_41) rfl  k) ?_
    refine own_iastore X13 hx hZ e13 H9 (j := ((q1.toInt32) &&& (3 : Int32))) ⟨fun q => by have e := own_p1_i (q := q1) hcs; rw [Int32.lt_iff_toInt_lt] at q; simp only [Int32.reduceToInt] at q; omega, by have e := own_p1_i (q := q1) hcs; rw [Int32.lt_iff_toInt_lt]; simp only [Int32.reduceToInt]; omega⟩ ((q1.toInt32) &&& (3 : Int32)).toNatClampNeg rfl (own_p1_l fc hcs) (g := (mkF m 42 #[.val (.ref a1), .val (.long q1), .second, .val (.int p3), .val .null] [(.int p3), (.int ((q1.toInt32) &&& (3 : Int32))), (.ref x1)])) rfl rfl (hb hby d7_42) (fun T14 h14 X14 e14 W14 V14 => ?_)
    replace V14 : Arv Z h14 x1 k1 .int (4 : Int32) (own_p1 (own_upd fc q1 p3)) (.int (0 : Int32)) := (by rw [← own_p1_s fc p3 hcs]; exact V14)
    have N14 := Fr.snoc X14 N13 H15
    have F15 : Keep h0 h14 [x0, x1, x2, x3] := (K0.wr W14 (Or.inl (List.mem_of_getElem? (i := 1) rfl)))
    have F16 : Arv Z h14 x0 k0 .int (4 : Int32) (own_p0 fc) (.int (0 : Int32)) := (H8.other W14 H18)
    have F17 : Arv Z h14 x2 k2 .int (4 : Int32) (own_p2 fc) (.int (0 : Int32)) := (H10.other W14 (Ne.symm H21))
    have F18 : Arv Z h14 x3 k3 .int zl (own_p3 fc) (.int (0 : Int32)) := (H11.other W14 (Ne.symm H22))
    subst hΦ
    exact own_retV X14 hx Bd.returns hlk (hb hby d7_43) e14 ⟨rfl, N14, F15, (by rw [own_p0_o fc p3 (by omega)]; exact F16), V14, (by rw [own_p2_o fc p3 (by omega)]; exact F17), (by rw [own_p3_o fc p3 (by omega)]; exact F18)⟩ (by decide) (by decide)
  · rw [own_p2_p hcs]
    show own_Run p e below Φ (T4.setTop (mkF m 32 #[.val (.ref a1), .val (.long q1), .second, .val (.int p3), .val .null] [(.int (2 : Int32)), (.ref x9)]))
    refine own_aaload X4 hx hZ e4 H7 (j := (2 : Int32)) (v := (.ref x2)) rfl ⟨by decide, by decide⟩ rfl (g := (mkF m 32 #[.val (.ref a1), .val (.long q1), .second, .val (.int p3), .val .null] [(.int (2 : Int32)), (.ref x9)])) rfl rfl (hb hby d7_32) ?_
    show own_Run p e below Φ (T4.setTop (mkF m 33 #[.val (.ref a1), .val (.long q1), .second, .val (.int p3), .val .null] [(.ref x2)]))
    refine own_go (fun t k => XS.aloadN X4.here hx rfl (hb hby d7_33) rfl rfl  k) ?_
    obtain ⟨T19, X19, e19, st19⟩ := getF X4 hx hZ hown (host := "") (Or.inl (hw _ (List.mem_of_getElem? (i := 16) rfl))) Via.refl e4 H3 (g := (mkF m 34 #[.val (.ref a1), .val (.long q1), .second, .val (.int p3), .val .null] [(.ref a1), (.ref x2)])) rfl rfl (hb hby d7_34)
    refine own_go st19 ?_
    refine own_go (fun t k => XS.lloadN X19.here hx rfl (hb hby d7_37) rfl  k) ?_
    refine own_callV X19 hx hZ (y := (⟨"com/example/hueline/hueline/model/Pages", "offset", "(J)I"⟩ : MethodName)) (z := (⟨"com/example/hueline/hueline/model/Pages", "offset", "(J)I"⟩ : MethodName)) (W := 1) (a := w1) (argsL := [(.long q1)]) (rest := [(.ref x2)]) hown (hw _ (List.mem_of_getElem? (i := 76) rfl)) (hw _ (List.mem_of_getElem? (i := 77) rfl)) (notFace_of_selects (args := #[]) (mvT hZ (hw _ (List.mem_of_getElem? (i := 79) rfl)))) (hw _ (List.mem_of_getElem? (i := 79) rfl)) (hw _ (List.mem_of_getElem? (i := 78) rfl)) (by decide) (own_bk (rm_off l Z a0 hw w1 q1 h0 n0 H6) hZ (hw _ (List.mem_of_getElem? (i := 80) rfl)) (hw _ (List.mem_of_getElem? (i := 8) rfl)) (by decide) (by decide)) e19 H4 (g := (mkF m 38 #[.val (.ref a1), .val (.long q1), .second, .val (.int p3), .val .null] [(.long q1), (.ref w1), (.ref x2)])) rfl (by rw [hml]; rfl) (lenOf pd_3 rfl) rfl (by show 2 * 0 + _ ≤ _; exact Nat.le_of_eq rfl) (hb hby d7_38) (by decide) (by decide) (fun v20 T20 h20 L20 X20 e20 q20 => ?_)
    obtain ⟨rfl, M20, s20⟩ := q20
    replace e20 : T20.heap = h0 := e20.trans s20
    have N20 := Fr.app N4 M20
    refine own_go (fun t k => XS.iloadN X20.here hx rfl (hb hby d7_41) rfl  k) ?_
    show own_Run p e below Φ (T20.setTop (mkF m 42 #[.val (.ref a1), .val (.long q1), .second, .val (.int p3), .val .null] [(.int p3), (.int ((q1.toInt32) &&& (3 : Int32))), (.ref x2)]))
    refine own_iastore X20 hx hZ e20 H10 (j := ((q1.toInt32) &&& (3 : Int32))) ⟨fun q => by have e := own_p2_i (q := q1) hcs; rw [Int32.lt_iff_toInt_lt] at q; simp only [Int32.reduceToInt] at q; omega, by have e := own_p2_i (q := q1) hcs; rw [Int32.lt_iff_toInt_lt]; simp only [Int32.reduceToInt]; omega⟩ ((q1.toInt32) &&& (3 : Int32)).toNatClampNeg rfl (own_p2_l fc hcs) (g := (mkF m 42 #[.val (.ref a1), .val (.long q1), .second, .val (.int p3), .val .null] [(.int p3), (.int ((q1.toInt32) &&& (3 : Int32))), (.ref x2)])) rfl rfl (hb hby d7_42) (fun T21 h21 X21 e21 W21 V21 => ?_)
    replace V21 : Arv Z h21 x2 k2 .int (4 : Int32) (own_p2 (own_upd fc q1 p3)) (.int (0 : Int32)) := (by rw [← own_p2_s fc p3 hcs]; exact V21)
    have N21 := Fr.snoc X21 N20 H16
    have F22 : Keep h0 h21 [x0, x1, x2, x3] := (K0.wr W21 (Or.inl (List.mem_of_getElem? (i := 2) rfl)))
    have F23 : Arv Z h21 x0 k0 .int (4 : Int32) (own_p0 fc) (.int (0 : Int32)) := (H8.other W21 H19)
    have F24 : Arv Z h21 x1 k1 .int (4 : Int32) (own_p1 fc) (.int (0 : Int32)) := (H9.other W21 H21)
    have F25 : Arv Z h21 x3 k3 .int zl (own_p3 fc) (.int (0 : Int32)) := (H11.other W21 (Ne.symm H23))
    subst hΦ
    exact own_retV X21 hx Bd.returns hlk (hb hby d7_43) e21 ⟨rfl, N21, F22, (by rw [own_p0_o fc p3 (by omega)]; exact F23), (by rw [own_p1_o fc p3 (by omega)]; exact F24), V21, (by rw [own_p3_o fc p3 (by omega)]; exact F25)⟩ (by decide) (by decide)
  · rw [own_p3_p hcs]
    show own_Run p e below Φ (T4.setTop (mkF m 32 #[.val (.ref a1), .val (.long q1), .second, .val (.int p3), .val .null] [(.int (3 : Int32)), (.ref x9)]))
    refine own_aaload X4 hx hZ e4 H7 (j := (3 : Int32)) (v := (.ref x3)) rfl ⟨by decide, by decide⟩ rfl (g := (mkF m 32 #[.val (.ref a1), .val (.long q1), .second, .val (.int p3), .val .null] [(.int (3 : Int32)), (.ref x9)])) rfl rfl (hb hby d7_32) ?_
    refine own_go (fun t k => XS.aloadN X4.here hx rfl (hb hby d7_33) rfl rfl  k) ?_
    obtain ⟨T26, X26, e26, st26⟩ := getF X4 hx hZ hown (host := "") (Or.inl (hw _ (List.mem_of_getElem? (i := 16) rfl))) Via.refl e4 H3 (g := (mkF m 34 #[.val (.ref a1), .val (.long q1), .second, .val (.int p3), .val .null] [(.ref a1), (.ref x3)])) rfl rfl (hb hby d7_34)
    refine own_go st26 ?_
    refine own_go (fun t k => XS.lloadN X26.here hx rfl (hb hby d7_37) rfl  k) ?_
    show own_Run p e below Φ (T26.setTop (mkF m 38 #[.val (.ref a1), .val (.long q1), .second, .val (.int p3), .val .null] [(.long q1), (.ref w1), (.ref x3)]))
    refine own_callV X26 hx hZ (y := (⟨"com/example/hueline/hueline/model/Pages", "offset", "(J)I"⟩ : MethodName)) (z := (⟨"com/example/hueline/hueline/model/Pages", "offset", "(J)I"⟩ : MethodName)) (W := 1) (a := w1) (argsL := [(.long q1)]) (rest := [(.ref x3)]) hown (hw _ (List.mem_of_getElem? (i := 76) rfl)) (hw _ (List.mem_of_getElem? (i := 77) rfl)) (notFace_of_selects (args := #[]) (mvT hZ (hw _ (List.mem_of_getElem? (i := 79) rfl)))) (hw _ (List.mem_of_getElem? (i := 79) rfl)) (hw _ (List.mem_of_getElem? (i := 78) rfl)) (by decide) (own_bk (rm_off l Z a0 hw w1 q1 h0 n0 H6) hZ (hw _ (List.mem_of_getElem? (i := 80) rfl)) (hw _ (List.mem_of_getElem? (i := 8) rfl)) (by decide) (by decide)) e26 H4 (g := (mkF m 38 #[.val (.ref a1), .val (.long q1), .second, .val (.int p3), .val .null] [(.long q1), (.ref w1), (.ref x3)])) rfl (by rw [hml]; rfl) (lenOf pd_3 rfl) rfl (by show 2 * 0 + _ ≤ _; exact Nat.le_of_eq rfl) (hb hby d7_38) (by decide) (by decide) (fun v27 T27 h27 L27 X27 e27 q27 => ?_)
    obtain ⟨rfl, M27, s27⟩ := q27
    replace e27 : T27.heap = h0 := e27.trans s27
    have N27 := Fr.app N4 M27
    refine own_go (fun t k => XS.iloadN X27.here hx rfl (hb hby d7_41) rfl  k) ?_
    refine own_iastore X27 hx hZ e27 H11 (j := ((q1.toInt32) &&& (3 : Int32))) ⟨fun q => by have e := own_p3_i (q := q1) hcs; rw [Int32.lt_iff_toInt_lt] at q; simp only [Int32.reduceToInt] at q; omega, by have e := own_p3_i (q := q1) hcs; rw [Int32.lt_iff_toInt_lt]; omega⟩ ((q1.toInt32) &&& (3 : Int32)).toNatClampNeg rfl (own_p3_l fc hcs) (g := (mkF m 42 #[.val (.ref a1), .val (.long q1), .second, .val (.int p3), .val .null] [(.int p3), (.int ((q1.toInt32) &&& (3 : Int32))), (.ref x3)])) rfl rfl (hb hby d7_42) (fun T28 h28 X28 e28 W28 V28 => ?_)
    replace V28 : Arv Z h28 x3 k3 .int zl (own_p3 (own_upd fc q1 p3)) (.int (0 : Int32)) := (by rw [← own_p3_s fc p3 hcs]; exact V28)
    have N28 := Fr.snoc X28 N27 H17
    have F29 : Keep h0 h28 [x0, x1, x2, x3] := (K0.wr W28 (Or.inl (List.mem_of_getElem? (i := 3) rfl)))
    have F30 : Arv Z h28 x0 k0 .int (4 : Int32) (own_p0 fc) (.int (0 : Int32)) := (H8.other W28 H20)
    have F31 : Arv Z h28 x1 k1 .int (4 : Int32) (own_p1 fc) (.int (0 : Int32)) := (H9.other W28 H22)
    have F32 : Arv Z h28 x2 k2 .int (4 : Int32) (own_p2 fc) (.int (0 : Int32)) := (H10.other W28 H23)
    subst hΦ
    exact own_retV X28 hx Bd.returns hlk (hb hby d7_43) e28 ⟨rfl, N28, F29, (by rw [own_p0_o fc p3 (by omega)]; exact F30), (by rw [own_p1_o fc p3 (by omega)]; exact F31), (by rw [own_p2_o fc p3 (by omega)]; exact F32), V28⟩ (by decide) (by decide)
theorem d9_0 : decode prog_36_method_3_code 0 = .ok (.aload_n 0, 1) := by decide +kernel
theorem d9_1 : decode prog_36_method_3_code 1 = .ok (.getfield 31, 3) := by decide +kernel
theorem d9_4 : decode prog_36_method_3_code 4 = .ok (.lreturn, 1) := by decide +kernel
theorem ef_9_R (m : MethodId) (x0 : Addr) : entryFrame m #[(.ref x0)] 1 = mkF m 0 #[.val (.ref x0)] [] := by first | (simp [entryFrame, mkF, argsToLocals, Value.category]; done) | rfl
set_option maxRecDepth 65536 in
set_option maxHeartbeats 40000000 in
theorem rm_ln (l : Launch) (Z : State) (a0 : Array Value) (hw : ∀ d ∈ tables_1, d.before a0 Z = true) (a1 : Addr) (q2 : Int64) (h0 : Heap) (n0 : Nat) (H1 : Fld Z h0 a1 "com/example/hueline/hueline/model/BigIntArray" "length" "J" (.long q2)) :
    own_Met l Z (⟨"com/example/hueline/hueline/model/BigIntArray", "length", "()J"⟩ : MethodName) prog_36_method_3_code 1 (some .long) ({ frames := 0, cells := 0, slots := 0, locals := 0 } : Room) #[(.ref a1)] h0 (fun v h L => v = some (.long q2) ∧ Fr n0 L ∧ h = h0) := by
  intro ws
  refine MetFree.of_bodySF (plainFor_of_name pn_c1) hisR ?_
  intro p e s m args below meth c s₁ Bd hml0 hP hK
  obtain ⟨rfl, hZ, hh⟩ := hP
  have hx := Bd.exec
  have hby := Bd.bytes
  have hml : c.maxLocals = 1 := hml0
  have hown : s.vm.findClass "com/example/hueline/hueline/model/BigIntArray" = some m.cls := findClass_of_methodNamed Bd.named
  have hnm := (name_of_methodNamed Bd.named Bd.method).1
  have hlk : meth.locks = false := Bd.notSynchronized
  have X0 : Stand p l e ({ frames := 0, cells := 0, slots := 0, locals := 0 } : Room) s m #[(.ref a1)] below meth c s₁ [] 0 0 := Stand.of_body Bd
  have e0 : s₁.heap = h0 := by rw [← hh, Bd.state]; rfl
  have N0 := Fr.nil n0
  refine own_body (Q := fun v h L => v = some (.long q2) ∧ Fr n0 L ∧ h = h0) ?_
  generalize hΦ : own_Fin s below _ _ _ = Φ
  refine own_cast (ef_9_R m a1) ?_
  show own_Run p e below Φ (s₁.setTop (mkF m 0 #[.val (.ref a1)] []))
  refine own_go (fun t k => XS.aloadN X0.here hx rfl (hb hby d9_0) rfl rfl  k) ?_
  obtain ⟨T1, X1, e1, st1⟩ := getF X0 hx hZ hown (host := "") (Or.inl (hw _ (List.mem_of_getElem? (i := 32) rfl))) Via.refl e0 H1 (g := (mkF m 1 #[.val (.ref a1)] [(.ref a1)])) rfl rfl (hb hby d9_1)
  refine own_go st1 ?_
  subst hΦ
  exact own_retO X1 hx (t := .long) Bd.returns rfl (Or.inr (Or.inl ⟨rfl, rfl, _, rfl⟩)) hlk (hb hby d9_4) e1 ⟨rfl, N0, rfl⟩ (by decide) (by decide)
theorem pn_c0 : plainName "com/example/hueline/hueline/model/BigIntArraySetPinLaw" = true := by first | (simp [plainName, overriddenIn]; done) | decide +kernel
theorem pd_0 : parseMethodDescriptor "(J)V" = some ⟨[.long], none⟩ := by decide +kernel
theorem pd_6 : parseMethodDescriptor "(JI)V" = some ⟨[.long, .int], none⟩ := by decide +kernel
theorem pd_7 : parseMethodDescriptor "()J" = some ⟨[], some .long⟩ := by decide +kernel
theorem pd_8 : parseMethodDescriptor "(I)V" = some ⟨[.int], none⟩ := by decide +kernel
theorem ef_0_IJJJII (m : MethodId) (x0 : Int32) (x1 : Int64) (x2 : Int64) (x3 : Int64) (x4 : Int32) (x5 : Int32) : entryFrame m #[(.int x0), (.long x1), (.long x2), (.long x3), (.int x4), (.int x5)] maxLocals = mkF m 0 #[.val (.int x0), .val (.long x1), .second, .val (.long x2), .second, .val (.long x3), .second, .val (.int x4), .val (.int x5), .unset, .unset, .unset, .unset, .unset, .unset, .unset, .unset, .unset, .unset, .unset, .unset, .unset, .unset, .unset] [] := by first | (simp [entryFrame, mkF, argsToLocals, Value.category, maxLocals]; done) | rfl
set_option maxRecDepth 65536 in
set_option maxHeartbeats 40000000 in
theorem rm_law (l : Launch) (Z : State) (a0 : Array Value) (hw : ∀ d ∈ tables_1, d.before a0 Z = true) (p1 : Int32) (q2 : Int64) (q3 : Int64) (q4 : Int64) (p5 : Int32) (p6 : Int32) (w1 : Addr) (h0 : Heap) (n0 : Nat) (Z0 : n0 ≤ h0.size) (O0 : Old Z n0 h0) (S0 : Sta Z Z.heap "com/example/hueline/hueline/model/Pages" "STANDARD" "Lcom/example/hueline/hueline/model/Pages;" (.ref w1)) (A0 : Exa Z Z.heap w1 "com/example/hueline/hueline/model/Pages") (B0 : Fld Z Z.heap w1 "com/example/hueline/hueline/model/Pages" "mask" "I" (.int (1073741823 : Int32))) (C0 : Fld Z Z.heap w1 "com/example/hueline/hueline/model/Pages" "shift" "I" (.int (30 : Int32))) (D0 : Fld Z Z.heap w1 "com/example/hueline/hueline/model/Pages" "length" "I" (.int (1073741824 : Int32))) :
    own_Met l Z x code maxLocals ret room_1 #[(.int p1), (.long q2), (.long q3), (.long q4), (.int p5), (.int p6)] h0 (fun v h L => v = some (.int 1) ∧ Fr n0 L) := by
  intro ws
  refine MetFree.of_bodySF (plainFor_of_name pn_c0) hisR ?_
  intro p e s m args below meth c s₁ Bd hml0 hP hK
  obtain ⟨rfl, hZ, hh⟩ := hP
  have hx := Bd.exec
  have hby := Bd.bytes
  have hml : c.maxLocals = 24 := hml0
  have hown : s.vm.findClass "com/example/hueline/hueline/model/BigIntArraySetPinLaw" = some m.cls := findClass_of_methodNamed Bd.named
  have hnm := (name_of_methodNamed Bd.named Bd.method).1
  have hlk : meth.locks = false := Bd.notSynchronized
  have X0 : Stand p l e room_1 s m #[(.int p1), (.long q2), (.long q3), (.long q4), (.int p5), (.int p6)] below meth c s₁ [] 0 0 := Stand.of_body Bd
  have e0 : s₁.heap = h0 := by rw [← hh, Bd.state]; rfl
  have N0 := Fr.nil n0
  refine own_body (Q := fun v h L => v = some (.int 1) ∧ Fr n0 L) ?_
  generalize hΦ : own_Fin s below _ _ _ = Φ
  refine own_cast (ef_0_IJJJII m p1 q2 q3 q4 p5 p6) ?_
  show own_Run p e below Φ (s₁.setTop (mkF m 0 #[.val (.int p1), .val (.long q2), .second, .val (.long q3), .second, .val (.long q4), .second, .val (.int p5), .val (.int p6), .unset, .unset, .unset, .unset, .unset, .unset, .unset, .unset, .unset, .unset, .unset, .unset, .unset, .unset, .unset] []))
  refine own_go (fun t k => XS.iloadN X0.here hx rfl (hb hby at_0) rfl  k) ?_
  refine own_go (fun t k => XS.iconst X0.here hx rfl (hb hby at_1) k) ?_
  refine own_go (fun t k => XS.iand X0.here hx rfl (hb hby at_2) rfl k) ?_
  by_cases hc3 : (p1 &&& (1 : Int32)) = (0 : Int32)
  · refine own_go (fun t k => XS.ifYes X0.here hx rfl (pc0 := 3) (pc' := 10) rfl (hb hby at_3) rfl ((if0 _ _).trans (teq hc3).1) (by decide) (by decide) k) ?_
    refine own_go (fun t k => XS.iconst X0.here hx rfl (hb hby at_10) k) ?_
    show own_Run p e below Φ (s₁.setTop (mkF m 11 #[.val (.int p1), .val (.long q2), .second, .val (.long q3), .second, .val (.long q4), .second, .val (.int p5), .val (.int p6), .unset, .unset, .unset, .unset, .unset, .unset, .unset, .unset, .unset, .unset, .unset, .unset, .unset, .unset, .unset] [(.int (0 : Int32))]))
    refine own_go (fun t k => XS.istore X0.here hx rfl (hb hby at_11) rfl (l' := #[.val (.int p1), .val (.long q2), .second, .val (.long q3), .second, .val (.long q4), .second, .val (.int p5), .val (.int p6), .val (.int (0 : Int32)), .unset, .unset, .unset, .unset, .unset, .unset, .unset, .unset, .unset, .unset, .unset, .unset, .unset, .unset]) rfl k) ?_
    refine own_go (fun t k => XS.iconst X0.here hx rfl (hb hby at_13) k) ?_
    refine own_go (fun t k => XS.iloadN X0.here hx rfl (hb hby at_14) rfl  k) ?_
    refine own_go (fun t k => XS.iconst X0.here hx rfl (hb hby at_15) k) ?_
    refine own_go (fun t k => XS.iushr X0.here hx rfl (hb hby at_16) rfl k) ?_
    show own_Run p e below Φ (s₁.setTop (mkF m 17 #[.val (.int p1), .val (.long q2), .second, .val (.long q3), .second, .val (.long q4), .second, .val (.int p5), .val (.int p6), .val (.int (0 : Int32)), .unset, .unset, .unset, .unset, .unset, .unset, .unset, .unset, .unset, .unset, .unset, .unset, .unset, .unset] [(.int ((p1.toUInt32 >>> ((1 : Int32) &&& 31).toUInt32).toInt32)), (.int (1 : Int32))]))
    refine own_go (fun t k => XS.bipush X0.here hx rfl (hb hby at_17) k) ?_
    refine own_go (fun t k => XS.iand X0.here hx rfl (hb hby at_19) rfl k) ?_
    refine own_go (fun t k => XS.iadd X0.here hx rfl (hb hby at_20) rfl k) ?_
    refine own_go (fun t k => XS.i2l X0.here hx rfl (hb hby at_21) rfl k) ?_
    refine own_go (fun t k => XS.lstore X0.here hx rfl (hb hby at_22) rfl (l' := #[.val (.int p1), .val (.long q2), .second, .val (.long q3), .second, .val (.long q4), .second, .val (.int p5), .val (.int p6), .val (.int (0 : Int32)), .val (.long (((1 : Int32) + (((p1.toUInt32 >>> ((1 : Int32) &&& 31).toUInt32).toInt32) &&& (15 : Int32))).toInt64)), .second, .unset, .unset, .unset, .unset, .unset, .unset, .unset, .unset, .unset, .unset, .unset, .unset]) rfl k) ?_
    show own_Run p e below Φ (s₁.setTop (mkF m 24 #[.val (.int p1), .val (.long q2), .second, .val (.long q3), .second, .val (.long q4), .second, .val (.int p5), .val (.int p6), .val (.int (0 : Int32)), .val (.long (((1 : Int32) + (((p1.toUInt32 >>> ((1 : Int32) &&& 31).toUInt32).toInt32) &&& (15 : Int32))).toInt64)), .second, .unset, .unset, .unset, .unset, .unset, .unset, .unset, .unset, .unset, .unset, .unset, .unset] []))
    have hnn := own_nn p1
    generalize enn : (((1 : Int32) + (((p1.toUInt32 >>> ((1 : Int32) &&& 31).toUInt32).toInt32) &&& (15 : Int32))).toInt64) = nn at hnn ⊢
    show own_Run p e below Φ (s₁.setTop (mkF m 24 #[.val (.int p1), .val (.long q2), .second, .val (.long q3), .second, .val (.long q4), .second, .val (.int p5), .val (.int p6), .val (.int (0 : Int32)), .val (.long nn), .second, .unset, .unset, .unset, .unset, .unset, .unset, .unset, .unset, .unset, .unset, .unset, .unset] []))
    refine own_go (fun t k => XS.lloadN X0.here hx rfl (hb hby at_24) rfl  k) ?_
    refine own_go (X0.ldc2Long hx hown (mvT hZ (hw _ (List.mem_of_getElem? (i := 0) rfl))) (g := (mkF m 25 #[.val (.int p1), .val (.long q2), .second, .val (.long q3), .second, .val (.long q4), .second, .val (.int p5), .val (.int p6), .val (.int (0 : Int32)), .val (.long nn), .second, .unset, .unset, .unset, .unset, .unset, .unset, .unset, .unset, .unset, .unset, .unset, .unset] [(.long q2)])) rfl (hb hby at_25)) ?_
    refine own_go (fun t k => XS.land X0.here hx rfl (hb hby at_28) rfl k) ?_
    refine own_go (fun t k => XS.lload X0.here hx rfl (hb hby at_29) rfl  k) ?_
    refine own_go (fun t k => XS.lrem X0.here hx rfl (hb hby at_31) rfl (own_ne0 hnn.1) k) ?_
    show own_Run p e below Φ (s₁.setTop (mkF m 32 #[.val (.int p1), .val (.long q2), .second, .val (.long q3), .second, .val (.long q4), .second, .val (.int p5), .val (.int p6), .val (.int (0 : Int32)), .val (.long nn), .second, .unset, .unset, .unset, .unset, .unset, .unset, .unset, .unset, .unset, .unset, .unset, .unset] [(.long ((q2 &&& (9223372036854775807 : Int64)) - (q2 &&& (9223372036854775807 : Int64)) / nn * nn))]))
    refine own_go (fun t k => XS.lstore X0.here hx rfl (hb hby at_32) rfl (l' := #[.val (.int p1), .val (.long q2), .second, .val (.long q3), .second, .val (.long q4), .second, .val (.int p5), .val (.int p6), .val (.int (0 : Int32)), .val (.long nn), .second, .val (.long ((q2 &&& (9223372036854775807 : Int64)) - (q2 &&& (9223372036854775807 : Int64)) / nn * nn)), .second, .unset, .unset, .unset, .unset, .unset, .unset, .unset, .unset, .unset, .unset]) rfl k) ?_
    refine own_go (fun t k => XS.lloadN X0.here hx rfl (hb hby at_34) rfl  k) ?_
    refine own_go (X0.ldc2Long hx hown (mvT hZ (hw _ (List.mem_of_getElem? (i := 0) rfl))) (g := (mkF m 35 #[.val (.int p1), .val (.long q2), .second, .val (.long q3), .second, .val (.long q4), .second, .val (.int p5), .val (.int p6), .val (.int (0 : Int32)), .val (.long nn), .second, .val (.long ((q2 &&& (9223372036854775807 : Int64)) - (q2 &&& (9223372036854775807 : Int64)) / nn * nn)), .second, .unset, .unset, .unset, .unset, .unset, .unset, .unset, .unset, .unset, .unset] [(.long q3)])) rfl (hb hby at_35)) ?_
    refine own_go (fun t k => XS.land X0.here hx rfl (hb hby at_38) rfl k) ?_
    refine own_go (fun t k => XS.lload X0.here hx rfl (hb hby at_39) rfl  k) ?_
    show own_Run p e below Φ (s₁.setTop (mkF m 41 #[.val (.int p1), .val (.long q2), .second, .val (.long q3), .second, .val (.long q4), .second, .val (.int p5), .val (.int p6), .val (.int (0 : Int32)), .val (.long nn), .second, .val (.long ((q2 &&& (9223372036854775807 : Int64)) - (q2 &&& (9223372036854775807 : Int64)) / nn * nn)), .second, .unset, .unset, .unset, .unset, .unset, .unset, .unset, .unset, .unset, .unset] [(.long nn), (.long (q3 &&& (9223372036854775807 : Int64)))]))
    refine own_go (fun t k => XS.lrem X0.here hx rfl (hb hby at_41) rfl (own_ne0 hnn.1) k) ?_
    refine own_go (fun t k => XS.lstore X0.here hx rfl (hb hby at_42) rfl (l' := #[.val (.int p1), .val (.long q2), .second, .val (.long q3), .second, .val (.long q4), .second, .val (.int p5), .val (.int p6), .val (.int (0 : Int32)), .val (.long nn), .second, .val (.long ((q2 &&& (9223372036854775807 : Int64)) - (q2 &&& (9223372036854775807 : Int64)) / nn * nn)), .second, .val (.long ((q3 &&& (9223372036854775807 : Int64)) - (q3 &&& (9223372036854775807 : Int64)) / nn * nn)), .second, .unset, .unset, .unset, .unset, .unset, .unset, .unset, .unset]) rfl k) ?_
    refine own_go (fun t k => XS.lload X0.here hx rfl (hb hby at_44) rfl  k) ?_
    refine own_go (X0.ldc2Long hx hown (mvT hZ (hw _ (List.mem_of_getElem? (i := 0) rfl))) (g := (mkF m 46 #[.val (.int p1), .val (.long q2), .second, .val (.long q3), .second, .val (.long q4), .second, .val (.int p5), .val (.int p6), .val (.int (0 : Int32)), .val (.long nn), .second, .val (.long ((q2 &&& (9223372036854775807 : Int64)) - (q2 &&& (9223372036854775807 : Int64)) / nn * nn)), .second, .val (.long ((q3 &&& (9223372036854775807 : Int64)) - (q3 &&& (9223372036854775807 : Int64)) / nn * nn)), .second, .unset, .unset, .unset, .unset, .unset, .unset, .unset, .unset] [(.long q4)])) rfl (hb hby at_46)) ?_
    refine own_go (fun t k => XS.land X0.here hx rfl (hb hby at_49) rfl k) ?_
    show own_Run p e below Φ (s₁.setTop (mkF m 50 #[.val (.int p1), .val (.long q2), .second, .val (.long q3), .second, .val (.long q4), .second, .val (.int p5), .val (.int p6), .val (.int (0 : Int32)), .val (.long nn), .second, .val (.long ((q2 &&& (9223372036854775807 : Int64)) - (q2 &&& (9223372036854775807 : Int64)) / nn * nn)), .second, .val (.long ((q3 &&& (9223372036854775807 : Int64)) - (q3 &&& (9223372036854775807 : Int64)) / nn * nn)), .second, .unset, .unset, .unset, .unset, .unset, .unset, .unset, .unset] [(.long (q4 &&& (9223372036854775807 : Int64)))]))
    refine own_go (fun t k => XS.lload X0.here hx rfl (hb hby at_50) rfl  k) ?_
    refine own_go (fun t k => XS.lrem X0.here hx rfl (hb hby at_52) rfl (own_ne0 hnn.1) k) ?_
    refine own_go (fun t k => XS.lstore X0.here hx rfl (hb hby at_53) rfl (l' := #[.val (.int p1), .val (.long q2), .second, .val (.long q3), .second, .val (.long q4), .second, .val (.int p5), .val (.int p6), .val (.int (0 : Int32)), .val (.long nn), .second, .val (.long ((q2 &&& (9223372036854775807 : Int64)) - (q2 &&& (9223372036854775807 : Int64)) / nn * nn)), .second, .val (.long ((q3 &&& (9223372036854775807 : Int64)) - (q3 &&& (9223372036854775807 : Int64)) / nn * nn)), .second, .val (.long ((q4 &&& (9223372036854775807 : Int64)) - (q4 &&& (9223372036854775807 : Int64)) / nn * nn)), .second, .unset, .unset, .unset, .unset, .unset, .unset]) rfl k) ?_
    show own_Run p e below Φ (s₁.setTop (mkF m 55 #[.val (.int p1), .val (.long q2), .second, .val (.long q3), .second, .val (.long q4), .second, .val (.int p5), .val (.int p6), .val (.int (0 : Int32)), .val (.long nn), .second, .val (.long ((q2 &&& (9223372036854775807 : Int64)) - (q2 &&& (9223372036854775807 : Int64)) / nn * nn)), .second, .val (.long ((q3 &&& (9223372036854775807 : Int64)) - (q3 &&& (9223372036854775807 : Int64)) / nn * nn)), .second, .val (.long ((q4 &&& (9223372036854775807 : Int64)) - (q4 &&& (9223372036854775807 : Int64)) / nn * nn)), .second, .unset, .unset, .unset, .unset, .unset, .unset] []))
    have hii := own_rem (x := q2) hnn.1
    generalize eii : ((q2 &&& (9223372036854775807 : Int64)) - (q2 &&& (9223372036854775807 : Int64)) / nn * nn) = ii at hii ⊢
    have hjj := own_rem (x := q3) hnn.1
    generalize ejj : ((q3 &&& (9223372036854775807 : Int64)) - (q3 &&& (9223372036854775807 : Int64)) / nn * nn) = jj at hjj ⊢
    have hkk := own_rem (x := q4) hnn.1
    generalize ekk : ((q4 &&& (9223372036854775807 : Int64)) - (q4 &&& (9223372036854775807 : Int64)) / nn * nn) = kk at hkk ⊢
    show own_Run p e below Φ (s₁.setTop (mkF m 55 #[.val (.int p1), .val (.long q2), .second, .val (.long q3), .second, .val (.long q4), .second, .val (.int p5), .val (.int p6), .val (.int (0 : Int32)), .val (.long nn), .second, .val (.long ii), .second, .val (.long jj), .second, .val (.long kk), .second, .unset, .unset, .unset, .unset, .unset, .unset] []))
    refine own_go (fun t k => XS.iload X0.here hx rfl (hb hby at_55) rfl  k) ?_
    refine own_go (fun t k => XS.ifYes X0.here hx rfl (pc0 := 57) (pc' := 80) rfl (hb hby at_57) rfl ((if0 _ _).trans (teq (rfl : (0 : Int32) = (0 : Int32))).1) (by decide) (by decide) k) ?_
    show own_Run p e below Φ (s₁.setTop (mkF m 80 #[.val (.int p1), .val (.long q2), .second, .val (.long q3), .second, .val (.long q4), .second, .val (.int p5), .val (.int p6), .val (.int (0 : Int32)), .val (.long nn), .second, .val (.long ii), .second, .val (.long jj), .second, .val (.long kk), .second, .unset, .unset, .unset, .unset, .unset, .unset] []))
    obtain ⟨zl, hzl⟩ := own_ex (n := nn) 0 (by decide) (by omega)
    show own_Run p e below Φ (s₁.setTop (mkF m 80 #[.val (.int p1), .val (.long q2), .second, .val (.long q3), .second, .val (.long q4), .second, .val (.int p5), .val (.int p6), .val (.int (0 : Int32)), .val (.long nn), .second, .val (.long ii), .second, .val (.long jj), .second, .val (.long kk), .second, .unset, .unset, .unset, .unset, .unset, .unset] []))
    obtain ⟨T1, h1, X1, e1, E1, A1, D1, -, st1⟩ := newO X0 hx hZ hown (hw _ (List.mem_of_getElem? (i := 1) rfl)) (hw _ (List.mem_of_getElem? (i := 2) rfl)) (hw _ (List.mem_of_getElem? (i := 3) rfl)) e0 (g := (mkF m 80 #[.val (.int p1), .val (.long q2), .second, .val (.long q3), .second, .val (.long q4), .second, .val (.int p5), .val (.int p6), .val (.int (0 : Int32)), .val (.long nn), .second, .val (.long ii), .second, .val (.long jj), .second, .val (.long kk), .second, .unset, .unset, .unset, .unset, .unset, .unset] [])) rfl (hb hby at_80) (by decide) (by decide)
    refine own_go st1 ?_
    obtain ⟨b1, g1⟩ : ∃ z, z = h0.size := ⟨_, rfl⟩
    rw [← g1] at A1 D1 ⊢
    have G2 : Fld Z h1 b1 "com/example/hueline/hueline/model/BigIntArray" "layout" "Lcom/example/hueline/hueline/model/Pages;" .null := D1 (Or.inr (hw _ (List.mem_of_getElem? (i := 17) rfl))) (ty := (.object "com/example/hueline/hueline/model/Pages")) (by decide)
    have G3 : Fld Z h1 b1 "com/example/hueline/hueline/model/BigIntArray" "pages" "[[I" .null := D1 (Or.inl (hw _ (List.mem_of_getElem? (i := 31) rfl))) (ty := (.array (.array .int))) (by decide)
    have G4 : Fld Z h1 b1 "com/example/hueline/hueline/model/BigIntArray" "length" "J" (.long (0 : Int64)) := D1 (Or.inl (hw _ (List.mem_of_getElem? (i := 33) rfl))) (ty := .long) (by decide)
    have G5 : Fld Z h1 b1 "com/example/hueline/hueline/model/BigIntArray" "flat" "[I" .null := D1 (Or.inl (hw _ (List.mem_of_getElem? (i := 48) rfl))) (ty := (.array .int)) (by decide)
    refine own_go (fun t k => XS.dup X1.here hx rfl (hb hby at_83) rfl rfl k) ?_
    refine own_go (fun t k => XS.lload X1.here hx rfl (hb hby at_84) rfl  k) ?_
    have F6 : n0 ≤ h1.size := (Nat.le_trans Z0 E1.1)
    have F7 : Old Z n0 h1 := (O0.ext E1)
    refine own_callI X1 hx hZ (y := (⟨"com/example/hueline/hueline/model/BigIntArray", "<init>", "(J)V"⟩ : MethodName)) (W := 1) (a := b1) (argsL := [(.long nn)]) (rest := [(.ref b1)]) rfl hown (hw _ (List.mem_of_getElem? (i := 4) rfl)) (hw _ (List.mem_of_getElem? (i := 5) rfl)) (hw _ (List.mem_of_getElem? (i := 6) rfl)) (by decide) (own_bk (rm_b1 l Z a0 hw b1 nn w1 zl h1 n0 A1 G2 G3 G4 G5 (Nat.le_trans Z0 (Nat.le_of_eq g1.symm)) F6 F7 A0 B0 C0 D0 S0 ⟨by omega, by omega⟩ (by omega)) hZ (hw _ (List.mem_of_getElem? (i := 6) rfl)) (hw _ (List.mem_of_getElem? (i := 3) rfl)) (by decide) (by decide)) e1 (g := (mkF m 86 #[.val (.int p1), .val (.long q2), .second, .val (.long q3), .second, .val (.long q4), .second, .val (.int p5), .val (.int p6), .val (.int (0 : Int32)), .val (.long nn), .second, .val (.long ii), .second, .val (.long jj), .second, .val (.long kk), .second, .unset, .unset, .unset, .unset, .unset, .unset] [(.long nn), (.ref b1), (.ref b1)])) rfl (by rw [hml]; rfl) (lenOf pd_0 rfl) rfl (by show 2 * 0 + _ ≤ _; exact Nat.le_of_eq rfl) (hb hby at_86) (by decide) (by decide) (fun v8 T8 h8 L8 X8 e8 q8 => ?_)
    obtain ⟨rfl, M8, K8, P8_0, P8_1⟩ := q8
    have N8 := Fr.app N0 M8
    obtain ⟨x0, k0, gx0, zx0, FF, Vx0⟩ := P8_1
    have ne_b1_x0 : b1 ≠ x0 := Nat.ne_of_lt (Nat.lt_of_lt_of_le A1.lt zx0)
    refine own_go (fun t k => XS.astore X8.here hx rfl (hb hby at_89) rfl rfl (l' := #[.val (.int p1), .val (.long q2), .second, .val (.long q3), .second, .val (.long q4), .second, .val (.int p5), .val (.int p6), .val (.int (0 : Int32)), .val (.long nn), .second, .val (.long ii), .second, .val (.long jj), .second, .val (.long kk), .second, .val (.ref b1), .unset, .unset, .unset, .unset, .unset]) rfl k) ?_
    show own_Run p e below Φ (T8.setTop (mkF m 91 #[.val (.int p1), .val (.long q2), .second, .val (.long q3), .second, .val (.long q4), .second, .val (.int p5), .val (.int p6), .val (.int (0 : Int32)), .val (.long nn), .second, .val (.long ii), .second, .val (.long jj), .second, .val (.long kk), .second, .val (.ref b1), .unset, .unset, .unset, .unset, .unset] []))
    refine own_go (fun t k => XS.aload X8.here hx rfl (hb hby at_91) rfl rfl  k) ?_
    refine own_go (fun t k => XS.lload X8.here hx rfl (hb hby at_93) rfl  k) ?_
    refine own_go (fun t k => XS.iload X8.here hx rfl (hb hby at_95) rfl  k) ?_
    have F10 : Exa Z h8 b1 "com/example/hueline/hueline/model/BigIntArray" := (A1.keep K8)
    refine own_callV X8 hx hZ (y := (⟨"com/example/hueline/hueline/model/BigIntArray", "set", "(JI)V"⟩ : MethodName)) (z := (⟨"com/example/hueline/hueline/model/BigIntArray", "set", "(JI)V"⟩ : MethodName)) (W := 0) (a := b1) (argsL := [(.long ii), (.int p5)]) (rest := []) hown (hw _ (List.mem_of_getElem? (i := 49) rfl)) (hw _ (List.mem_of_getElem? (i := 50) rfl)) (notFace_of_selects (args := #[]) (mvT hZ (hw _ (List.mem_of_getElem? (i := 52) rfl)))) (hw _ (List.mem_of_getElem? (i := 52) rfl)) (hw _ (List.mem_of_getElem? (i := 51) rfl)) (by decide) (own_bk (rm_set1 l Z a0 hw b1 ii p5 x0 k0 zl own_z h8 n0 FF Vx0 ⟨by omega, by omega⟩ ⟨by omega, by omega⟩ gx0) hZ (hw _ (List.mem_of_getElem? (i := 53) rfl)) (hw _ (List.mem_of_getElem? (i := 3) rfl)) (by decide) (by decide)) e8 F10 (g := (mkF m 97 #[.val (.int p1), .val (.long q2), .second, .val (.long q3), .second, .val (.long q4), .second, .val (.int p5), .val (.int p6), .val (.int (0 : Int32)), .val (.long nn), .second, .val (.long ii), .second, .val (.long jj), .second, .val (.long kk), .second, .val (.ref b1), .unset, .unset, .unset, .unset, .unset] [(.int p5), (.long ii), (.ref b1)])) rfl (by rw [hml]; rfl) (lenOf pd_6 rfl) rfl (by show 2 * 0 + _ ≤ _; exact Nat.le_of_eq rfl) (hb hby at_97) (by decide) (by decide) (fun v9 T9 h9 L9 X9 e9 q9 => ?_)
    obtain ⟨rfl, M9, K9, P9_0⟩ := q9
    have N9 := Fr.app N8 M9
    refine own_go (fun t k => XS.aload X9.here hx rfl (hb hby at_100) rfl rfl  k) ?_
    show own_Run p e below Φ (T9.setTop (mkF m 102 #[.val (.int p1), .val (.long q2), .second, .val (.long q3), .second, .val (.long q4), .second, .val (.int p5), .val (.int p6), .val (.int (0 : Int32)), .val (.long nn), .second, .val (.long ii), .second, .val (.long jj), .second, .val (.long kk), .second, .val (.ref b1), .unset, .unset, .unset, .unset, .unset] [(.ref b1)]))
    refine own_go (fun t k => XS.lload X9.here hx rfl (hb hby at_102) rfl  k) ?_
    refine own_go (fun t k => XS.iload X9.here hx rfl (hb hby at_104) rfl  k) ?_
    have F11 : Fld Z h9 b1 "com/example/hueline/hueline/model/BigIntArray" "flat" "[I" (.ref x0) := (FF.keep K9 (ninS ne_b1_x0 nin0))
    have F13 : Exa Z h9 b1 "com/example/hueline/hueline/model/BigIntArray" := (F10.keep K9)
    refine own_callV X9 hx hZ (y := (⟨"com/example/hueline/hueline/model/BigIntArray", "set", "(JI)V"⟩ : MethodName)) (z := (⟨"com/example/hueline/hueline/model/BigIntArray", "set", "(JI)V"⟩ : MethodName)) (W := 0) (a := b1) (argsL := [(.long jj), (.int p6)]) (rest := []) hown (hw _ (List.mem_of_getElem? (i := 49) rfl)) (hw _ (List.mem_of_getElem? (i := 50) rfl)) (notFace_of_selects (args := #[]) (mvT hZ (hw _ (List.mem_of_getElem? (i := 52) rfl)))) (hw _ (List.mem_of_getElem? (i := 52) rfl)) (hw _ (List.mem_of_getElem? (i := 51) rfl)) (by decide) (own_bk (rm_set1 l Z a0 hw b1 jj p6 x0 k0 zl (own_upd own_z ii p5) h9 n0 F11 P9_0 ⟨by omega, by omega⟩ ⟨by omega, by omega⟩ gx0) hZ (hw _ (List.mem_of_getElem? (i := 53) rfl)) (hw _ (List.mem_of_getElem? (i := 3) rfl)) (by decide) (by decide)) e9 F13 (g := (mkF m 106 #[.val (.int p1), .val (.long q2), .second, .val (.long q3), .second, .val (.long q4), .second, .val (.int p5), .val (.int p6), .val (.int (0 : Int32)), .val (.long nn), .second, .val (.long ii), .second, .val (.long jj), .second, .val (.long kk), .second, .val (.ref b1), .unset, .unset, .unset, .unset, .unset] [(.int p6), (.long jj), (.ref b1)])) rfl (by rw [hml]; rfl) (lenOf pd_6 rfl) rfl (by show 2 * 0 + _ ≤ _; exact Nat.le_of_eq rfl) (hb hby at_106) (by decide) (by decide) (fun v12 T12 h12 L12 X12 e12 q12 => ?_)
    obtain ⟨rfl, M12, K12, P12_0⟩ := q12
    have N12 := Fr.app N9 M12
    refine own_go (fun t k => XS.aload X12.here hx rfl (hb hby at_109) rfl rfl  k) ?_
    refine own_go (fun t k => XS.lload X12.here hx rfl (hb hby at_111) rfl  k) ?_
    show own_Run p e below Φ (T12.setTop (mkF m 113 #[.val (.int p1), .val (.long q2), .second, .val (.long q3), .second, .val (.long q4), .second, .val (.int p5), .val (.int p6), .val (.int (0 : Int32)), .val (.long nn), .second, .val (.long ii), .second, .val (.long jj), .second, .val (.long kk), .second, .val (.ref b1), .unset, .unset, .unset, .unset, .unset] [(.long ii), (.ref b1)]))
    have F14 : Fld Z h12 b1 "com/example/hueline/hueline/model/BigIntArray" "flat" "[I" (.ref x0) := (F11.keep K12 (ninS ne_b1_x0 nin0))
    have F16 : Exa Z h12 b1 "com/example/hueline/hueline/model/BigIntArray" := (F13.keep K12)
    refine own_callV X12 hx hZ (y := (⟨"com/example/hueline/hueline/model/BigIntArray", "get", "(J)I"⟩ : MethodName)) (z := (⟨"com/example/hueline/hueline/model/BigIntArray", "get", "(J)I"⟩ : MethodName)) (W := 0) (a := b1) (argsL := [(.long ii)]) (rest := []) hown (hw _ (List.mem_of_getElem? (i := 54) rfl)) (hw _ (List.mem_of_getElem? (i := 55) rfl)) (notFace_of_selects (args := #[]) (mvT hZ (hw _ (List.mem_of_getElem? (i := 57) rfl)))) (hw _ (List.mem_of_getElem? (i := 57) rfl)) (hw _ (List.mem_of_getElem? (i := 56) rfl)) (by decide) (own_bk (rm_get1 l Z a0 hw b1 ii x0 k0 zl (own_upd (own_upd own_z ii p5) jj p6) h12 n0 F14 P12_0 ⟨by omega, by omega⟩ ⟨by omega, by omega⟩) hZ (hw _ (List.mem_of_getElem? (i := 58) rfl)) (hw _ (List.mem_of_getElem? (i := 3) rfl)) (by decide) (by decide)) e12 F16 (g := (mkF m 113 #[.val (.int p1), .val (.long q2), .second, .val (.long q3), .second, .val (.long q4), .second, .val (.int p5), .val (.int p6), .val (.int (0 : Int32)), .val (.long nn), .second, .val (.long ii), .second, .val (.long jj), .second, .val (.long kk), .second, .val (.ref b1), .unset, .unset, .unset, .unset, .unset] [(.long ii), (.ref b1)])) rfl (by rw [hml]; rfl) (lenOf pd_3 rfl) rfl (by show 2 * 0 + _ ≤ _; exact Nat.le_of_eq rfl) (hb hby at_113) (by decide) (by decide) (fun v15 T15 h15 L15 X15 e15 q15 => ?_)
    obtain ⟨rfl, M15, s15⟩ := q15
    replace e15 : T15.heap = h12 := e15.trans s15
    have N15 := Fr.app N12 M15
    refine own_go (fun t k => XS.istore X15.here hx rfl (hb hby at_116) rfl (l' := #[.val (.int p1), .val (.long q2), .second, .val (.long q3), .second, .val (.long q4), .second, .val (.int p5), .val (.int p6), .val (.int (0 : Int32)), .val (.long nn), .second, .val (.long ii), .second, .val (.long jj), .second, .val (.long kk), .second, .val (.ref b1), .val (.int ((own_upd (own_upd own_z ii p5) jj p6) ii)), .unset, .unset, .unset, .unset]) rfl k) ?_
    refine own_go (fun t k => XS.aload X15.here hx rfl (hb hby at_118) rfl rfl  k) ?_
    refine own_go (fun t k => XS.lload X15.here hx rfl (hb hby at_120) rfl  k) ?_
    refine own_callV X15 hx hZ (y := (⟨"com/example/hueline/hueline/model/BigIntArray", "get", "(J)I"⟩ : MethodName)) (z := (⟨"com/example/hueline/hueline/model/BigIntArray", "get", "(J)I"⟩ : MethodName)) (W := 0) (a := b1) (argsL := [(.long jj)]) (rest := []) hown (hw _ (List.mem_of_getElem? (i := 54) rfl)) (hw _ (List.mem_of_getElem? (i := 55) rfl)) (notFace_of_selects (args := #[]) (mvT hZ (hw _ (List.mem_of_getElem? (i := 57) rfl)))) (hw _ (List.mem_of_getElem? (i := 57) rfl)) (hw _ (List.mem_of_getElem? (i := 56) rfl)) (by decide) (own_bk (rm_get1 l Z a0 hw b1 jj x0 k0 zl (own_upd (own_upd own_z ii p5) jj p6) h12 n0 F14 P12_0 ⟨by omega, by omega⟩ ⟨by omega, by omega⟩) hZ (hw _ (List.mem_of_getElem? (i := 58) rfl)) (hw _ (List.mem_of_getElem? (i := 3) rfl)) (by decide) (by decide)) e15 F16 (g := (mkF m 122 #[.val (.int p1), .val (.long q2), .second, .val (.long q3), .second, .val (.long q4), .second, .val (.int p5), .val (.int p6), .val (.int (0 : Int32)), .val (.long nn), .second, .val (.long ii), .second, .val (.long jj), .second, .val (.long kk), .second, .val (.ref b1), .val (.int ((own_upd (own_upd own_z ii p5) jj p6) ii)), .unset, .unset, .unset, .unset] [(.long jj), (.ref b1)])) rfl (by rw [hml]; rfl) (lenOf pd_3 rfl) rfl (by show 2 * 0 + _ ≤ _; exact Nat.le_of_eq rfl) (hb hby at_122) (by decide) (by decide) (fun v17 T17 h17 L17 X17 e17 q17 => ?_)
    obtain ⟨rfl, M17, s17⟩ := q17
    replace e17 : T17.heap = h12 := e17.trans s17
    have N17 := Fr.app N15 M17
    show own_Run p e below Φ (T17.setTop (mkF m 125 #[.val (.int p1), .val (.long q2), .second, .val (.long q3), .second, .val (.long q4), .second, .val (.int p5), .val (.int p6), .val (.int (0 : Int32)), .val (.long nn), .second, .val (.long ii), .second, .val (.long jj), .second, .val (.long kk), .second, .val (.ref b1), .val (.int ((own_upd (own_upd own_z ii p5) jj p6) ii)), .unset, .unset, .unset, .unset] [(.int ((own_upd (own_upd own_z ii p5) jj p6) jj))]))
    refine own_go (fun t k => XS.istore X17.here hx rfl (hb hby at_125) rfl (l' := #[.val (.int p1), .val (.long q2), .second, .val (.long q3), .second, .val (.long q4), .second, .val (.int p5), .val (.int p6), .val (.int (0 : Int32)), .val (.long nn), .second, .val (.long ii), .second, .val (.long jj), .second, .val (.long kk), .second, .val (.ref b1), .val (.int ((own_upd (own_upd own_z ii p5) jj p6) ii)), .val (.int ((own_upd (own_upd own_z ii p5) jj p6) jj)), .unset, .unset, .unset]) rfl k) ?_
    refine own_go (fun t k => XS.aload X17.here hx rfl (hb hby at_127) rfl rfl  k) ?_
    refine own_go (fun t k => XS.lload X17.here hx rfl (hb hby at_129) rfl  k) ?_
    refine own_callV X17 hx hZ (y := (⟨"com/example/hueline/hueline/model/BigIntArray", "get", "(J)I"⟩ : MethodName)) (z := (⟨"com/example/hueline/hueline/model/BigIntArray", "get", "(J)I"⟩ : MethodName)) (W := 0) (a := b1) (argsL := [(.long kk)]) (rest := []) hown (hw _ (List.mem_of_getElem? (i := 54) rfl)) (hw _ (List.mem_of_getElem? (i := 55) rfl)) (notFace_of_selects (args := #[]) (mvT hZ (hw _ (List.mem_of_getElem? (i := 57) rfl)))) (hw _ (List.mem_of_getElem? (i := 57) rfl)) (hw _ (List.mem_of_getElem? (i := 56) rfl)) (by decide) (own_bk (rm_get1 l Z a0 hw b1 kk x0 k0 zl (own_upd (own_upd own_z ii p5) jj p6) h12 n0 F14 P12_0 ⟨by omega, by omega⟩ ⟨by omega, by omega⟩) hZ (hw _ (List.mem_of_getElem? (i := 58) rfl)) (hw _ (List.mem_of_getElem? (i := 3) rfl)) (by decide) (by decide)) e17 F16 (g := (mkF m 131 #[.val (.int p1), .val (.long q2), .second, .val (.long q3), .second, .val (.long q4), .second, .val (.int p5), .val (.int p6), .val (.int (0 : Int32)), .val (.long nn), .second, .val (.long ii), .second, .val (.long jj), .second, .val (.long kk), .second, .val (.ref b1), .val (.int ((own_upd (own_upd own_z ii p5) jj p6) ii)), .val (.int ((own_upd (own_upd own_z ii p5) jj p6) jj)), .unset, .unset, .unset] [(.long kk), (.ref b1)])) rfl (by rw [hml]; rfl) (lenOf pd_3 rfl) rfl (by show 2 * 0 + _ ≤ _; exact Nat.le_of_eq rfl) (hb hby at_131) (by decide) (by decide) (fun v18 T18 h18 L18 X18 e18 q18 => ?_)
    obtain ⟨rfl, M18, s18⟩ := q18
    replace e18 : T18.heap = h12 := e18.trans s18
    have N18 := Fr.app N17 M18
    refine own_go (fun t k => XS.istore X18.here hx rfl (hb hby at_134) rfl (l' := #[.val (.int p1), .val (.long q2), .second, .val (.long q3), .second, .val (.long q4), .second, .val (.int p5), .val (.int p6), .val (.int (0 : Int32)), .val (.long nn), .second, .val (.long ii), .second, .val (.long jj), .second, .val (.long kk), .second, .val (.ref b1), .val (.int ((own_upd (own_upd own_z ii p5) jj p6) ii)), .val (.int ((own_upd (own_upd own_z ii p5) jj p6) jj)), .val (.int ((own_upd (own_upd own_z ii p5) jj p6) kk)), .unset, .unset]) rfl k) ?_
    show own_Run p e below Φ (T18.setTop (mkF m 136 #[.val (.int p1), .val (.long q2), .second, .val (.long q3), .second, .val (.long q4), .second, .val (.int p5), .val (.int p6), .val (.int (0 : Int32)), .val (.long nn), .second, .val (.long ii), .second, .val (.long jj), .second, .val (.long kk), .second, .val (.ref b1), .val (.int ((own_upd (own_upd own_z ii p5) jj p6) ii)), .val (.int ((own_upd (own_upd own_z ii p5) jj p6) jj)), .val (.int ((own_upd (own_upd own_z ii p5) jj p6) kk)), .unset, .unset] []))
    refine own_go (fun t k => XS.lload X18.here hx rfl (hb hby at_136) rfl  k) ?_
    refine own_go (fun t k => XS.lload X18.here hx rfl (hb hby at_138) rfl  k) ?_
    refine own_go (fun t k => XS.lcmp X18.here hx rfl (hb hby at_140) rfl k) ?_
    by_cases hc141 : (lcmpW ii jj) = (0 : Int32)
    · refine own_go (fun t k => XS.ifNo X18.here hx rfl (hb hby at_141) rfl ((if0 _ _).trans (teq hc141).2) k) ?_
      refine own_go (fun t k => XS.iload X18.here hx rfl (hb hby at_144) rfl  k) ?_
      show own_Run p e below Φ (T18.setTop (mkF m 146 #[.val (.int p1), .val (.long q2), .second, .val (.long q3), .second, .val (.long q4), .second, .val (.int p5), .val (.int p6), .val (.int (0 : Int32)), .val (.long nn), .second, .val (.long ii), .second, .val (.long jj), .second, .val (.long kk), .second, .val (.ref b1), .val (.int ((own_upd (own_upd own_z ii p5) jj p6) ii)), .val (.int ((own_upd (own_upd own_z ii p5) jj p6) jj)), .val (.int ((own_upd (own_upd own_z ii p5) jj p6) kk)), .unset, .unset] [(.int p6)]))
      refine own_go (fun t k => XS.goto X18.here hx rfl (pc0 := 146) (pc' := 151) rfl (hb hby at_146) (by decide) (by decide) k) ?_
      refine own_go (fun t k => XS.istore X18.here hx rfl (hb hby at_151) rfl (l' := #[.val (.int p1), .val (.long q2), .second, .val (.long q3), .second, .val (.long q4), .second, .val (.int p5), .val (.int p6), .val (.int (0 : Int32)), .val (.long nn), .second, .val (.long ii), .second, .val (.long jj), .second, .val (.long kk), .second, .val (.ref b1), .val (.int ((own_upd (own_upd own_z ii p5) jj p6) ii)), .val (.int ((own_upd (own_upd own_z ii p5) jj p6) jj)), .val (.int ((own_upd (own_upd own_z ii p5) jj p6) kk)), .val (.int p6), .unset]) rfl k) ?_
      refine own_go (fun t k => XS.lload X18.here hx rfl (hb hby at_153) rfl  k) ?_
      refine own_go (fun t k => XS.lload X18.here hx rfl (hb hby at_155) rfl  k) ?_
      refine own_go (fun t k => XS.lcmp X18.here hx rfl (hb hby at_157) rfl k) ?_
      show own_Run p e below Φ (T18.setTop (mkF m 158 #[.val (.int p1), .val (.long q2), .second, .val (.long q3), .second, .val (.long q4), .second, .val (.int p5), .val (.int p6), .val (.int (0 : Int32)), .val (.long nn), .second, .val (.long ii), .second, .val (.long jj), .second, .val (.long kk), .second, .val (.ref b1), .val (.int ((own_upd (own_upd own_z ii p5) jj p6) ii)), .val (.int ((own_upd (own_upd own_z ii p5) jj p6) jj)), .val (.int ((own_upd (own_upd own_z ii p5) jj p6) kk)), .val (.int p6), .unset] [(.int (lcmpW kk jj))]))
      by_cases hc158 : (lcmpW kk jj) = (0 : Int32)
      · refine own_go (fun t k => XS.ifNo X18.here hx rfl (hb hby at_158) rfl ((if0 _ _).trans (teq hc158).2) k) ?_
        refine own_go (fun t k => XS.iload X18.here hx rfl (hb hby at_161) rfl  k) ?_
        refine own_go (fun t k => XS.istore X18.here hx rfl (hb hby at_163) rfl (l' := #[.val (.int p1), .val (.long q2), .second, .val (.long q3), .second, .val (.long q4), .second, .val (.int p5), .val (.int p6), .val (.int (0 : Int32)), .val (.long nn), .second, .val (.long ii), .second, .val (.long jj), .second, .val (.long kk), .second, .val (.ref b1), .val (.int ((own_upd (own_upd own_z ii p5) jj p6) ii)), .val (.int ((own_upd (own_upd own_z ii p5) jj p6) jj)), .val (.int ((own_upd (own_upd own_z ii p5) jj p6) kk)), .val (.int p6), .val (.int p6)]) rfl k) ?_
        refine own_go (fun t k => XS.goto X18.here hx rfl (pc0 := 165) (pc' := 186) rfl (hb hby at_165) (by decide) (by decide) k) ?_
        refine own_go (fun t k => XS.iload X18.here hx rfl (hb hby at_186) rfl  k) ?_
        show own_Run p e below Φ (T18.setTop (mkF m 188 #[.val (.int p1), .val (.long q2), .second, .val (.long q3), .second, .val (.long q4), .second, .val (.int p5), .val (.int p6), .val (.int (0 : Int32)), .val (.long nn), .second, .val (.long ii), .second, .val (.long jj), .second, .val (.long kk), .second, .val (.ref b1), .val (.int ((own_upd (own_upd own_z ii p5) jj p6) ii)), .val (.int ((own_upd (own_upd own_z ii p5) jj p6) jj)), .val (.int ((own_upd (own_upd own_z ii p5) jj p6) kk)), .val (.int p6), .val (.int p6)] [(.int ((own_upd (own_upd own_z ii p5) jj p6) ii))]))
        refine own_go (fun t k => XS.iload X18.here hx rfl (hb hby at_188) rfl  k) ?_
        have hc190 : ((own_upd (own_upd own_z ii p5) jj p6) ii) = p6 := (own_u1 hc141)
        refine own_go (fun t k => XS.icmpNo X18.here hx rfl (hb hby at_190) rfl (teq hc190).2 k) ?_
        refine own_go (fun t k => XS.iload X18.here hx rfl (hb hby at_193) rfl  k) ?_
        refine own_go (fun t k => XS.iload X18.here hx rfl (hb hby at_195) rfl  k) ?_
        have hc197 : ((own_upd (own_upd own_z ii p5) jj p6) jj) = p6 := own_u1'
        refine own_go (fun t k => XS.icmpNo X18.here hx rfl (hb hby at_197) rfl (teq hc197).2 k) ?_
        show own_Run p e below Φ (T18.setTop (mkF m 200 #[.val (.int p1), .val (.long q2), .second, .val (.long q3), .second, .val (.long q4), .second, .val (.int p5), .val (.int p6), .val (.int (0 : Int32)), .val (.long nn), .second, .val (.long ii), .second, .val (.long jj), .second, .val (.long kk), .second, .val (.ref b1), .val (.int ((own_upd (own_upd own_z ii p5) jj p6) ii)), .val (.int ((own_upd (own_upd own_z ii p5) jj p6) jj)), .val (.int ((own_upd (own_upd own_z ii p5) jj p6) kk)), .val (.int p6), .val (.int p6)] []))
        refine own_go (fun t k => XS.iload X18.here hx rfl (hb hby at_200) rfl  k) ?_
        refine own_go (fun t k => XS.iload X18.here hx rfl (hb hby at_202) rfl  k) ?_
        have hc204 : ((own_upd (own_upd own_z ii p5) jj p6) kk) = p6 := (own_u1 hc158)
        refine own_go (fun t k => XS.icmpNo X18.here hx rfl (hb hby at_204) rfl (teq hc204).2 k) ?_
        refine own_go (fun t k => XS.aload X18.here hx rfl (hb hby at_207) rfl rfl  k) ?_
        have F19 : Fld Z h12 b1 "com/example/hueline/hueline/model/BigIntArray" "length" "J" (.long nn) := ((P8_0.keep K9 (ninS ne_b1_x0 nin0)).keep K12 (ninS ne_b1_x0 nin0))
        refine own_callV X18 hx hZ (y := (⟨"com/example/hueline/hueline/model/BigIntArray", "length", "()J"⟩ : MethodName)) (z := (⟨"com/example/hueline/hueline/model/BigIntArray", "length", "()J"⟩ : MethodName)) (W := 0) (a := b1) (argsL := []) (rest := []) hown (hw _ (List.mem_of_getElem? (i := 59) rfl)) (hw _ (List.mem_of_getElem? (i := 60) rfl)) (notFace_of_selects (args := #[]) (mvT hZ (hw _ (List.mem_of_getElem? (i := 62) rfl)))) (hw _ (List.mem_of_getElem? (i := 62) rfl)) (hw _ (List.mem_of_getElem? (i := 61) rfl)) (by decide) (own_bk (rm_ln l Z a0 hw b1 nn h12 n0 F19) hZ (hw _ (List.mem_of_getElem? (i := 63) rfl)) (hw _ (List.mem_of_getElem? (i := 3) rfl)) (by decide) (by decide)) e18 F16 (g := (mkF m 209 #[.val (.int p1), .val (.long q2), .second, .val (.long q3), .second, .val (.long q4), .second, .val (.int p5), .val (.int p6), .val (.int (0 : Int32)), .val (.long nn), .second, .val (.long ii), .second, .val (.long jj), .second, .val (.long kk), .second, .val (.ref b1), .val (.int ((own_upd (own_upd own_z ii p5) jj p6) ii)), .val (.int ((own_upd (own_upd own_z ii p5) jj p6) jj)), .val (.int ((own_upd (own_upd own_z ii p5) jj p6) kk)), .val (.int p6), .val (.int p6)] [(.ref b1)])) rfl (by rw [hml]; rfl) (lenOf pd_7 rfl) rfl (by show 2 * 0 + _ ≤ _; exact Nat.le_of_eq rfl) (hb hby at_209) (by decide) (by decide) (fun v20 T20 h20 L20 X20 e20 q20 => ?_)
        obtain ⟨rfl, M20, s20⟩ := q20
        replace e20 : T20.heap = h12 := e20.trans s20
        have N20 := Fr.app N18 M20
        show own_Run p e below Φ (T20.setTop (mkF m 212 #[.val (.int p1), .val (.long q2), .second, .val (.long q3), .second, .val (.long q4), .second, .val (.int p5), .val (.int p6), .val (.int (0 : Int32)), .val (.long nn), .second, .val (.long ii), .second, .val (.long jj), .second, .val (.long kk), .second, .val (.ref b1), .val (.int ((own_upd (own_upd own_z ii p5) jj p6) ii)), .val (.int ((own_upd (own_upd own_z ii p5) jj p6) jj)), .val (.int ((own_upd (own_upd own_z ii p5) jj p6) kk)), .val (.int p6), .val (.int p6)] [(.long nn)]))
        refine own_go (fun t k => XS.lload X20.here hx rfl (hb hby at_212) rfl  k) ?_
        refine own_go (fun t k => XS.lcmp X20.here hx rfl (hb hby at_214) rfl k) ?_
        have hc215 : (lcmpW nn nn) = (0 : Int32) := ((lw_eq _ _).mpr rfl)
        refine own_go (fun t k => XS.ifNo X20.here hx rfl (hb hby at_215) rfl ((if0 _ _).trans (teq hc215).2) k) ?_
        refine own_go (fun t k => XS.iconst X20.here hx rfl (hb hby at_218) k) ?_
        refine own_go (fun t k => XS.goto X20.here hx rfl (pc0 := 219) (pc' := 223) rfl (hb hby at_219) (by decide) (by decide) k) ?_
        show own_Run p e below Φ (T20.setTop (mkF m 223 #[.val (.int p1), .val (.long q2), .second, .val (.long q3), .second, .val (.long q4), .second, .val (.int p5), .val (.int p6), .val (.int (0 : Int32)), .val (.long nn), .second, .val (.long ii), .second, .val (.long jj), .second, .val (.long kk), .second, .val (.ref b1), .val (.int ((own_upd (own_upd own_z ii p5) jj p6) ii)), .val (.int ((own_upd (own_upd own_z ii p5) jj p6) jj)), .val (.int ((own_upd (own_upd own_z ii p5) jj p6) kk)), .val (.int p6), .val (.int p6)] [(.int (1 : Int32))]))
        subst hΦ
        exact own_retN X20 hx (t := .boolean) Bd.returns (by simp) hlk (hb hby at_223) e20 ⟨rfl, N20⟩ (by decide) (by decide)
      · refine own_go (fun t k => XS.ifYes X18.here hx rfl (pc0 := 158) (pc' := 168) rfl (hb hby at_158) rfl ((if0 _ _).trans (feq hc158).2) (by decide) (by decide) k) ?_
        refine own_go (fun t k => XS.lload X18.here hx rfl (hb hby at_168) rfl  k) ?_
        refine own_go (fun t k => XS.lload X18.here hx rfl (hb hby at_170) rfl  k) ?_
        refine own_go (fun t k => XS.lcmp X18.here hx rfl (hb hby at_172) rfl k) ?_
        by_cases hc173 : (lcmpW kk ii) = (0 : Int32)
        · refine own_go (fun t k => XS.ifNo X18.here hx rfl (hb hby at_173) rfl ((if0 _ _).trans (teq hc173).2) k) ?_
          show own_Run p e below Φ (T18.setTop (mkF m 176 #[.val (.int p1), .val (.long q2), .second, .val (.long q3), .second, .val (.long q4), .second, .val (.int p5), .val (.int p6), .val (.int (0 : Int32)), .val (.long nn), .second, .val (.long ii), .second, .val (.long jj), .second, .val (.long kk), .second, .val (.ref b1), .val (.int ((own_upd (own_upd own_z ii p5) jj p6) ii)), .val (.int ((own_upd (own_upd own_z ii p5) jj p6) jj)), .val (.int ((own_upd (own_upd own_z ii p5) jj p6) kk)), .val (.int p6), .unset] []))
          refine own_go (fun t k => XS.iload X18.here hx rfl (hb hby at_176) rfl  k) ?_
          refine own_go (fun t k => XS.istore X18.here hx rfl (hb hby at_178) rfl (l' := #[.val (.int p1), .val (.long q2), .second, .val (.long q3), .second, .val (.long q4), .second, .val (.int p5), .val (.int p6), .val (.int (0 : Int32)), .val (.long nn), .second, .val (.long ii), .second, .val (.long jj), .second, .val (.long kk), .second, .val (.ref b1), .val (.int ((own_upd (own_upd own_z ii p5) jj p6) ii)), .val (.int ((own_upd (own_upd own_z ii p5) jj p6) jj)), .val (.int ((own_upd (own_upd own_z ii p5) jj p6) kk)), .val (.int p6), .val (.int p5)]) rfl k) ?_
          refine own_go (fun t k => XS.goto X18.here hx rfl (pc0 := 180) (pc' := 186) rfl (hb hby at_180) (by decide) (by decide) k) ?_
          refine own_go (fun t k => XS.iload X18.here hx rfl (hb hby at_186) rfl  k) ?_
          refine own_go (fun t k => XS.iload X18.here hx rfl (hb hby at_188) rfl  k) ?_
          show own_Run p e below Φ (T18.setTop (mkF m 190 #[.val (.int p1), .val (.long q2), .second, .val (.long q3), .second, .val (.long q4), .second, .val (.int p5), .val (.int p6), .val (.int (0 : Int32)), .val (.long nn), .second, .val (.long ii), .second, .val (.long jj), .second, .val (.long kk), .second, .val (.ref b1), .val (.int ((own_upd (own_upd own_z ii p5) jj p6) ii)), .val (.int ((own_upd (own_upd own_z ii p5) jj p6) jj)), .val (.int ((own_upd (own_upd own_z ii p5) jj p6) kk)), .val (.int p6), .val (.int p5)] [(.int p6), (.int ((own_upd (own_upd own_z ii p5) jj p6) ii))]))
          have hc190 : ((own_upd (own_upd own_z ii p5) jj p6) ii) = p6 := (own_u1 hc141)
          refine own_go (fun t k => XS.icmpNo X18.here hx rfl (hb hby at_190) rfl (teq hc190).2 k) ?_
          refine own_go (fun t k => XS.iload X18.here hx rfl (hb hby at_193) rfl  k) ?_
          refine own_go (fun t k => XS.iload X18.here hx rfl (hb hby at_195) rfl  k) ?_
          have hc197 : ((own_upd (own_upd own_z ii p5) jj p6) jj) = p6 := own_u1'
          refine own_go (fun t k => XS.icmpNo X18.here hx rfl (hb hby at_197) rfl (teq hc197).2 k) ?_
          refine own_go (fun t k => XS.iload X18.here hx rfl (hb hby at_200) rfl  k) ?_
          show own_Run p e below Φ (T18.setTop (mkF m 202 #[.val (.int p1), .val (.long q2), .second, .val (.long q3), .second, .val (.long q4), .second, .val (.int p5), .val (.int p6), .val (.int (0 : Int32)), .val (.long nn), .second, .val (.long ii), .second, .val (.long jj), .second, .val (.long kk), .second, .val (.ref b1), .val (.int ((own_upd (own_upd own_z ii p5) jj p6) ii)), .val (.int ((own_upd (own_upd own_z ii p5) jj p6) jj)), .val (.int ((own_upd (own_upd own_z ii p5) jj p6) kk)), .val (.int p6), .val (.int p5)] [(.int ((own_upd (own_upd own_z ii p5) jj p6) kk))]))
          refine own_go (fun t k => XS.iload X18.here hx rfl (hb hby at_202) rfl  k) ?_
          have hc204 : ((own_upd (own_upd own_z ii p5) jj p6) kk) = p5 := ((own_u2 hc158).trans (own_u1 hc173))
          refine own_go (fun t k => XS.icmpNo X18.here hx rfl (hb hby at_204) rfl (teq hc204).2 k) ?_
          refine own_go (fun t k => XS.aload X18.here hx rfl (hb hby at_207) rfl rfl  k) ?_
          have F21 : Fld Z h12 b1 "com/example/hueline/hueline/model/BigIntArray" "length" "J" (.long nn) := ((P8_0.keep K9 (ninS ne_b1_x0 nin0)).keep K12 (ninS ne_b1_x0 nin0))
          refine own_callV X18 hx hZ (y := (⟨"com/example/hueline/hueline/model/BigIntArray", "length", "()J"⟩ : MethodName)) (z := (⟨"com/example/hueline/hueline/model/BigIntArray", "length", "()J"⟩ : MethodName)) (W := 0) (a := b1) (argsL := []) (rest := []) hown (hw _ (List.mem_of_getElem? (i := 59) rfl)) (hw _ (List.mem_of_getElem? (i := 60) rfl)) (notFace_of_selects (args := #[]) (mvT hZ (hw _ (List.mem_of_getElem? (i := 62) rfl)))) (hw _ (List.mem_of_getElem? (i := 62) rfl)) (hw _ (List.mem_of_getElem? (i := 61) rfl)) (by decide) (own_bk (rm_ln l Z a0 hw b1 nn h12 n0 F21) hZ (hw _ (List.mem_of_getElem? (i := 63) rfl)) (hw _ (List.mem_of_getElem? (i := 3) rfl)) (by decide) (by decide)) e18 F16 (g := (mkF m 209 #[.val (.int p1), .val (.long q2), .second, .val (.long q3), .second, .val (.long q4), .second, .val (.int p5), .val (.int p6), .val (.int (0 : Int32)), .val (.long nn), .second, .val (.long ii), .second, .val (.long jj), .second, .val (.long kk), .second, .val (.ref b1), .val (.int ((own_upd (own_upd own_z ii p5) jj p6) ii)), .val (.int ((own_upd (own_upd own_z ii p5) jj p6) jj)), .val (.int ((own_upd (own_upd own_z ii p5) jj p6) kk)), .val (.int p6), .val (.int p5)] [(.ref b1)])) rfl (by rw [hml]; rfl) (lenOf pd_7 rfl) rfl (by show 2 * 0 + _ ≤ _; exact Nat.le_of_eq rfl) (hb hby at_209) (by decide) (by decide) (fun v22 T22 h22 L22 X22 e22 q22 => ?_)
          obtain ⟨rfl, M22, s22⟩ := q22
          replace e22 : T22.heap = h12 := e22.trans s22
          have N22 := Fr.app N18 M22
          refine own_go (fun t k => XS.lload X22.here hx rfl (hb hby at_212) rfl  k) ?_
          show own_Run p e below Φ (T22.setTop (mkF m 214 #[.val (.int p1), .val (.long q2), .second, .val (.long q3), .second, .val (.long q4), .second, .val (.int p5), .val (.int p6), .val (.int (0 : Int32)), .val (.long nn), .second, .val (.long ii), .second, .val (.long jj), .second, .val (.long kk), .second, .val (.ref b1), .val (.int ((own_upd (own_upd own_z ii p5) jj p6) ii)), .val (.int ((own_upd (own_upd own_z ii p5) jj p6) jj)), .val (.int ((own_upd (own_upd own_z ii p5) jj p6) kk)), .val (.int p6), .val (.int p5)] [(.long nn), (.long nn)]))
          refine own_go (fun t k => XS.lcmp X22.here hx rfl (hb hby at_214) rfl k) ?_
          have hc215 : (lcmpW nn nn) = (0 : Int32) := ((lw_eq _ _).mpr rfl)
          refine own_go (fun t k => XS.ifNo X22.here hx rfl (hb hby at_215) rfl ((if0 _ _).trans (teq hc215).2) k) ?_
          refine own_go (fun t k => XS.iconst X22.here hx rfl (hb hby at_218) k) ?_
          refine own_go (fun t k => XS.goto X22.here hx rfl (pc0 := 219) (pc' := 223) rfl (hb hby at_219) (by decide) (by decide) k) ?_
          subst hΦ
          exact own_retN X22 hx (t := .boolean) Bd.returns (by simp) hlk (hb hby at_223) e22 ⟨rfl, N22⟩ (by decide) (by decide)
        · refine own_go (fun t k => XS.ifYes X18.here hx rfl (pc0 := 173) (pc' := 183) rfl (hb hby at_173) rfl ((if0 _ _).trans (feq hc173).2) (by decide) (by decide) k) ?_
          show own_Run p e below Φ (T18.setTop (mkF m 183 #[.val (.int p1), .val (.long q2), .second, .val (.long q3), .second, .val (.long q4), .second, .val (.int p5), .val (.int p6), .val (.int (0 : Int32)), .val (.long nn), .second, .val (.long ii), .second, .val (.long jj), .second, .val (.long kk), .second, .val (.ref b1), .val (.int ((own_upd (own_upd own_z ii p5) jj p6) ii)), .val (.int ((own_upd (own_upd own_z ii p5) jj p6) jj)), .val (.int ((own_upd (own_upd own_z ii p5) jj p6) kk)), .val (.int p6), .unset] []))
          refine own_go (fun t k => XS.iconst X18.here hx rfl (hb hby at_183) k) ?_
          refine own_go (fun t k => XS.istore X18.here hx rfl (hb hby at_184) rfl (l' := #[.val (.int p1), .val (.long q2), .second, .val (.long q3), .second, .val (.long q4), .second, .val (.int p5), .val (.int p6), .val (.int (0 : Int32)), .val (.long nn), .second, .val (.long ii), .second, .val (.long jj), .second, .val (.long kk), .second, .val (.ref b1), .val (.int ((own_upd (own_upd own_z ii p5) jj p6) ii)), .val (.int ((own_upd (own_upd own_z ii p5) jj p6) jj)), .val (.int ((own_upd (own_upd own_z ii p5) jj p6) kk)), .val (.int p6), .val (.int (0 : Int32))]) rfl k) ?_
          refine own_go (fun t k => XS.iload X18.here hx rfl (hb hby at_186) rfl  k) ?_
          refine own_go (fun t k => XS.iload X18.here hx rfl (hb hby at_188) rfl  k) ?_
          have hc190 : ((own_upd (own_upd own_z ii p5) jj p6) ii) = p6 := (own_u1 hc141)
          refine own_go (fun t k => XS.icmpNo X18.here hx rfl (hb hby at_190) rfl (teq hc190).2 k) ?_
          show own_Run p e below Φ (T18.setTop (mkF m 193 #[.val (.int p1), .val (.long q2), .second, .val (.long q3), .second, .val (.long q4), .second, .val (.int p5), .val (.int p6), .val (.int (0 : Int32)), .val (.long nn), .second, .val (.long ii), .second, .val (.long jj), .second, .val (.long kk), .second, .val (.ref b1), .val (.int ((own_upd (own_upd own_z ii p5) jj p6) ii)), .val (.int ((own_upd (own_upd own_z ii p5) jj p6) jj)), .val (.int ((own_upd (own_upd own_z ii p5) jj p6) kk)), .val (.int p6), .val (.int (0 : Int32))] []))
          refine own_go (fun t k => XS.iload X18.here hx rfl (hb hby at_193) rfl  k) ?_
          refine own_go (fun t k => XS.iload X18.here hx rfl (hb hby at_195) rfl  k) ?_
          have hc197 : ((own_upd (own_upd own_z ii p5) jj p6) jj) = p6 := own_u1'
          refine own_go (fun t k => XS.icmpNo X18.here hx rfl (hb hby at_197) rfl (teq hc197).2 k) ?_
          refine own_go (fun t k => XS.iload X18.here hx rfl (hb hby at_200) rfl  k) ?_
          refine own_go (fun t k => XS.iload X18.here hx rfl (hb hby at_202) rfl  k) ?_
          show own_Run p e below Φ (T18.setTop (mkF m 204 #[.val (.int p1), .val (.long q2), .second, .val (.long q3), .second, .val (.long q4), .second, .val (.int p5), .val (.int p6), .val (.int (0 : Int32)), .val (.long nn), .second, .val (.long ii), .second, .val (.long jj), .second, .val (.long kk), .second, .val (.ref b1), .val (.int ((own_upd (own_upd own_z ii p5) jj p6) ii)), .val (.int ((own_upd (own_upd own_z ii p5) jj p6) jj)), .val (.int ((own_upd (own_upd own_z ii p5) jj p6) kk)), .val (.int p6), .val (.int (0 : Int32))] [(.int (0 : Int32)), (.int ((own_upd (own_upd own_z ii p5) jj p6) kk))]))
          have hc204 : ((own_upd (own_upd own_z ii p5) jj p6) kk) = (0 : Int32) := ((own_u2 hc158).trans (own_u2 hc173))
          refine own_go (fun t k => XS.icmpNo X18.here hx rfl (hb hby at_204) rfl (teq hc204).2 k) ?_
          refine own_go (fun t k => XS.aload X18.here hx rfl (hb hby at_207) rfl rfl  k) ?_
          have F23 : Fld Z h12 b1 "com/example/hueline/hueline/model/BigIntArray" "length" "J" (.long nn) := ((P8_0.keep K9 (ninS ne_b1_x0 nin0)).keep K12 (ninS ne_b1_x0 nin0))
          refine own_callV X18 hx hZ (y := (⟨"com/example/hueline/hueline/model/BigIntArray", "length", "()J"⟩ : MethodName)) (z := (⟨"com/example/hueline/hueline/model/BigIntArray", "length", "()J"⟩ : MethodName)) (W := 0) (a := b1) (argsL := []) (rest := []) hown (hw _ (List.mem_of_getElem? (i := 59) rfl)) (hw _ (List.mem_of_getElem? (i := 60) rfl)) (notFace_of_selects (args := #[]) (mvT hZ (hw _ (List.mem_of_getElem? (i := 62) rfl)))) (hw _ (List.mem_of_getElem? (i := 62) rfl)) (hw _ (List.mem_of_getElem? (i := 61) rfl)) (by decide) (own_bk (rm_ln l Z a0 hw b1 nn h12 n0 F23) hZ (hw _ (List.mem_of_getElem? (i := 63) rfl)) (hw _ (List.mem_of_getElem? (i := 3) rfl)) (by decide) (by decide)) e18 F16 (g := (mkF m 209 #[.val (.int p1), .val (.long q2), .second, .val (.long q3), .second, .val (.long q4), .second, .val (.int p5), .val (.int p6), .val (.int (0 : Int32)), .val (.long nn), .second, .val (.long ii), .second, .val (.long jj), .second, .val (.long kk), .second, .val (.ref b1), .val (.int ((own_upd (own_upd own_z ii p5) jj p6) ii)), .val (.int ((own_upd (own_upd own_z ii p5) jj p6) jj)), .val (.int ((own_upd (own_upd own_z ii p5) jj p6) kk)), .val (.int p6), .val (.int (0 : Int32))] [(.ref b1)])) rfl (by rw [hml]; rfl) (lenOf pd_7 rfl) rfl (by show 2 * 0 + _ ≤ _; exact Nat.le_of_eq rfl) (hb hby at_209) (by decide) (by decide) (fun v24 T24 h24 L24 X24 e24 q24 => ?_)
          obtain ⟨rfl, M24, s24⟩ := q24
          replace e24 : T24.heap = h12 := e24.trans s24
          have N24 := Fr.app N18 M24
          refine own_go (fun t k => XS.lload X24.here hx rfl (hb hby at_212) rfl  k) ?_
          refine own_go (fun t k => XS.lcmp X24.here hx rfl (hb hby at_214) rfl k) ?_
          show own_Run p e below Φ (T24.setTop (mkF m 215 #[.val (.int p1), .val (.long q2), .second, .val (.long q3), .second, .val (.long q4), .second, .val (.int p5), .val (.int p6), .val (.int (0 : Int32)), .val (.long nn), .second, .val (.long ii), .second, .val (.long jj), .second, .val (.long kk), .second, .val (.ref b1), .val (.int ((own_upd (own_upd own_z ii p5) jj p6) ii)), .val (.int ((own_upd (own_upd own_z ii p5) jj p6) jj)), .val (.int ((own_upd (own_upd own_z ii p5) jj p6) kk)), .val (.int p6), .val (.int (0 : Int32))] [(.int (lcmpW nn nn))]))
          have hc215 : (lcmpW nn nn) = (0 : Int32) := ((lw_eq _ _).mpr rfl)
          refine own_go (fun t k => XS.ifNo X24.here hx rfl (hb hby at_215) rfl ((if0 _ _).trans (teq hc215).2) k) ?_
          refine own_go (fun t k => XS.iconst X24.here hx rfl (hb hby at_218) k) ?_
          refine own_go (fun t k => XS.goto X24.here hx rfl (pc0 := 219) (pc' := 223) rfl (hb hby at_219) (by decide) (by decide) k) ?_
          subst hΦ
          exact own_retN X24 hx (t := .boolean) Bd.returns (by simp) hlk (hb hby at_223) e24 ⟨rfl, N24⟩ (by decide) (by decide)
    · refine own_go (fun t k => XS.ifYes X18.here hx rfl (pc0 := 141) (pc' := 149) rfl (hb hby at_141) rfl ((if0 _ _).trans (feq hc141).2) (by decide) (by decide) k) ?_
      refine own_go (fun t k => XS.iload X18.here hx rfl (hb hby at_149) rfl  k) ?_
      show own_Run p e below Φ (T18.setTop (mkF m 151 #[.val (.int p1), .val (.long q2), .second, .val (.long q3), .second, .val (.long q4), .second, .val (.int p5), .val (.int p6), .val (.int (0 : Int32)), .val (.long nn), .second, .val (.long ii), .second, .val (.long jj), .second, .val (.long kk), .second, .val (.ref b1), .val (.int ((own_upd (own_upd own_z ii p5) jj p6) ii)), .val (.int ((own_upd (own_upd own_z ii p5) jj p6) jj)), .val (.int ((own_upd (own_upd own_z ii p5) jj p6) kk)), .unset, .unset] [(.int p5)]))
      refine own_go (fun t k => XS.istore X18.here hx rfl (hb hby at_151) rfl (l' := #[.val (.int p1), .val (.long q2), .second, .val (.long q3), .second, .val (.long q4), .second, .val (.int p5), .val (.int p6), .val (.int (0 : Int32)), .val (.long nn), .second, .val (.long ii), .second, .val (.long jj), .second, .val (.long kk), .second, .val (.ref b1), .val (.int ((own_upd (own_upd own_z ii p5) jj p6) ii)), .val (.int ((own_upd (own_upd own_z ii p5) jj p6) jj)), .val (.int ((own_upd (own_upd own_z ii p5) jj p6) kk)), .val (.int p5), .unset]) rfl k) ?_
      refine own_go (fun t k => XS.lload X18.here hx rfl (hb hby at_153) rfl  k) ?_
      refine own_go (fun t k => XS.lload X18.here hx rfl (hb hby at_155) rfl  k) ?_
      refine own_go (fun t k => XS.lcmp X18.here hx rfl (hb hby at_157) rfl k) ?_
      by_cases hc158 : (lcmpW kk jj) = (0 : Int32)
      · refine own_go (fun t k => XS.ifNo X18.here hx rfl (hb hby at_158) rfl ((if0 _ _).trans (teq hc158).2) k) ?_
        show own_Run p e below Φ (T18.setTop (mkF m 161 #[.val (.int p1), .val (.long q2), .second, .val (.long q3), .second, .val (.long q4), .second, .val (.int p5), .val (.int p6), .val (.int (0 : Int32)), .val (.long nn), .second, .val (.long ii), .second, .val (.long jj), .second, .val (.long kk), .second, .val (.ref b1), .val (.int ((own_upd (own_upd own_z ii p5) jj p6) ii)), .val (.int ((own_upd (own_upd own_z ii p5) jj p6) jj)), .val (.int ((own_upd (own_upd own_z ii p5) jj p6) kk)), .val (.int p5), .unset] []))
        refine own_go (fun t k => XS.iload X18.here hx rfl (hb hby at_161) rfl  k) ?_
        refine own_go (fun t k => XS.istore X18.here hx rfl (hb hby at_163) rfl (l' := #[.val (.int p1), .val (.long q2), .second, .val (.long q3), .second, .val (.long q4), .second, .val (.int p5), .val (.int p6), .val (.int (0 : Int32)), .val (.long nn), .second, .val (.long ii), .second, .val (.long jj), .second, .val (.long kk), .second, .val (.ref b1), .val (.int ((own_upd (own_upd own_z ii p5) jj p6) ii)), .val (.int ((own_upd (own_upd own_z ii p5) jj p6) jj)), .val (.int ((own_upd (own_upd own_z ii p5) jj p6) kk)), .val (.int p5), .val (.int p6)]) rfl k) ?_
        refine own_go (fun t k => XS.goto X18.here hx rfl (pc0 := 165) (pc' := 186) rfl (hb hby at_165) (by decide) (by decide) k) ?_
        refine own_go (fun t k => XS.iload X18.here hx rfl (hb hby at_186) rfl  k) ?_
        refine own_go (fun t k => XS.iload X18.here hx rfl (hb hby at_188) rfl  k) ?_
        show own_Run p e below Φ (T18.setTop (mkF m 190 #[.val (.int p1), .val (.long q2), .second, .val (.long q3), .second, .val (.long q4), .second, .val (.int p5), .val (.int p6), .val (.int (0 : Int32)), .val (.long nn), .second, .val (.long ii), .second, .val (.long jj), .second, .val (.long kk), .second, .val (.ref b1), .val (.int ((own_upd (own_upd own_z ii p5) jj p6) ii)), .val (.int ((own_upd (own_upd own_z ii p5) jj p6) jj)), .val (.int ((own_upd (own_upd own_z ii p5) jj p6) kk)), .val (.int p5), .val (.int p6)] [(.int p5), (.int ((own_upd (own_upd own_z ii p5) jj p6) ii))]))
        have hc190 : ((own_upd (own_upd own_z ii p5) jj p6) ii) = p5 := ((own_u2 hc141).trans own_u1')
        refine own_go (fun t k => XS.icmpNo X18.here hx rfl (hb hby at_190) rfl (teq hc190).2 k) ?_
        refine own_go (fun t k => XS.iload X18.here hx rfl (hb hby at_193) rfl  k) ?_
        refine own_go (fun t k => XS.iload X18.here hx rfl (hb hby at_195) rfl  k) ?_
        have hc197 : ((own_upd (own_upd own_z ii p5) jj p6) jj) = p6 := own_u1'
        refine own_go (fun t k => XS.icmpNo X18.here hx rfl (hb hby at_197) rfl (teq hc197).2 k) ?_
        refine own_go (fun t k => XS.iload X18.here hx rfl (hb hby at_200) rfl  k) ?_
        show own_Run p e below Φ (T18.setTop (mkF m 202 #[.val (.int p1), .val (.long q2), .second, .val (.long q3), .second, .val (.long q4), .second, .val (.int p5), .val (.int p6), .val (.int (0 : Int32)), .val (.long nn), .second, .val (.long ii), .second, .val (.long jj), .second, .val (.long kk), .second, .val (.ref b1), .val (.int ((own_upd (own_upd own_z ii p5) jj p6) ii)), .val (.int ((own_upd (own_upd own_z ii p5) jj p6) jj)), .val (.int ((own_upd (own_upd own_z ii p5) jj p6) kk)), .val (.int p5), .val (.int p6)] [(.int ((own_upd (own_upd own_z ii p5) jj p6) kk))]))
        refine own_go (fun t k => XS.iload X18.here hx rfl (hb hby at_202) rfl  k) ?_
        have hc204 : ((own_upd (own_upd own_z ii p5) jj p6) kk) = p6 := (own_u1 hc158)
        refine own_go (fun t k => XS.icmpNo X18.here hx rfl (hb hby at_204) rfl (teq hc204).2 k) ?_
        refine own_go (fun t k => XS.aload X18.here hx rfl (hb hby at_207) rfl rfl  k) ?_
        have F25 : Fld Z h12 b1 "com/example/hueline/hueline/model/BigIntArray" "length" "J" (.long nn) := ((P8_0.keep K9 (ninS ne_b1_x0 nin0)).keep K12 (ninS ne_b1_x0 nin0))
        refine own_callV X18 hx hZ (y := (⟨"com/example/hueline/hueline/model/BigIntArray", "length", "()J"⟩ : MethodName)) (z := (⟨"com/example/hueline/hueline/model/BigIntArray", "length", "()J"⟩ : MethodName)) (W := 0) (a := b1) (argsL := []) (rest := []) hown (hw _ (List.mem_of_getElem? (i := 59) rfl)) (hw _ (List.mem_of_getElem? (i := 60) rfl)) (notFace_of_selects (args := #[]) (mvT hZ (hw _ (List.mem_of_getElem? (i := 62) rfl)))) (hw _ (List.mem_of_getElem? (i := 62) rfl)) (hw _ (List.mem_of_getElem? (i := 61) rfl)) (by decide) (own_bk (rm_ln l Z a0 hw b1 nn h12 n0 F25) hZ (hw _ (List.mem_of_getElem? (i := 63) rfl)) (hw _ (List.mem_of_getElem? (i := 3) rfl)) (by decide) (by decide)) e18 F16 (g := (mkF m 209 #[.val (.int p1), .val (.long q2), .second, .val (.long q3), .second, .val (.long q4), .second, .val (.int p5), .val (.int p6), .val (.int (0 : Int32)), .val (.long nn), .second, .val (.long ii), .second, .val (.long jj), .second, .val (.long kk), .second, .val (.ref b1), .val (.int ((own_upd (own_upd own_z ii p5) jj p6) ii)), .val (.int ((own_upd (own_upd own_z ii p5) jj p6) jj)), .val (.int ((own_upd (own_upd own_z ii p5) jj p6) kk)), .val (.int p5), .val (.int p6)] [(.ref b1)])) rfl (by rw [hml]; rfl) (lenOf pd_7 rfl) rfl (by show 2 * 0 + _ ≤ _; exact Nat.le_of_eq rfl) (hb hby at_209) (by decide) (by decide) (fun v26 T26 h26 L26 X26 e26 q26 => ?_)
        obtain ⟨rfl, M26, s26⟩ := q26
        replace e26 : T26.heap = h12 := e26.trans s26
        have N26 := Fr.app N18 M26
        refine own_go (fun t k => XS.lload X26.here hx rfl (hb hby at_212) rfl  k) ?_
        show own_Run p e below Φ (T26.setTop (mkF m 214 #[.val (.int p1), .val (.long q2), .second, .val (.long q3), .second, .val (.long q4), .second, .val (.int p5), .val (.int p6), .val (.int (0 : Int32)), .val (.long nn), .second, .val (.long ii), .second, .val (.long jj), .second, .val (.long kk), .second, .val (.ref b1), .val (.int ((own_upd (own_upd own_z ii p5) jj p6) ii)), .val (.int ((own_upd (own_upd own_z ii p5) jj p6) jj)), .val (.int ((own_upd (own_upd own_z ii p5) jj p6) kk)), .val (.int p5), .val (.int p6)] [(.long nn), (.long nn)]))
        refine own_go (fun t k => XS.lcmp X26.here hx rfl (hb hby at_214) rfl k) ?_
        have hc215 : (lcmpW nn nn) = (0 : Int32) := ((lw_eq _ _).mpr rfl)
        refine own_go (fun t k => XS.ifNo X26.here hx rfl (hb hby at_215) rfl ((if0 _ _).trans (teq hc215).2) k) ?_
        refine own_go (fun t k => XS.iconst X26.here hx rfl (hb hby at_218) k) ?_
        refine own_go (fun t k => XS.goto X26.here hx rfl (pc0 := 219) (pc' := 223) rfl (hb hby at_219) (by decide) (by decide) k) ?_
        subst hΦ
        exact own_retN X26 hx (t := .boolean) Bd.returns (by simp) hlk (hb hby at_223) e26 ⟨rfl, N26⟩ (by decide) (by decide)
      · refine own_go (fun t k => XS.ifYes X18.here hx rfl (pc0 := 158) (pc' := 168) rfl (hb hby at_158) rfl ((if0 _ _).trans (feq hc158).2) (by decide) (by decide) k) ?_
        show own_Run p e below Φ (T18.setTop (mkF m 168 #[.val (.int p1), .val (.long q2), .second, .val (.long q3), .second, .val (.long q4), .second, .val (.int p5), .val (.int p6), .val (.int (0 : Int32)), .val (.long nn), .second, .val (.long ii), .second, .val (.long jj), .second, .val (.long kk), .second, .val (.ref b1), .val (.int ((own_upd (own_upd own_z ii p5) jj p6) ii)), .val (.int ((own_upd (own_upd own_z ii p5) jj p6) jj)), .val (.int ((own_upd (own_upd own_z ii p5) jj p6) kk)), .val (.int p5), .unset] []))
        refine own_go (fun t k => XS.lload X18.here hx rfl (hb hby at_168) rfl  k) ?_
        refine own_go (fun t k => XS.lload X18.here hx rfl (hb hby at_170) rfl  k) ?_
        refine own_go (fun t k => XS.lcmp X18.here hx rfl (hb hby at_172) rfl k) ?_
        by_cases hc173 : (lcmpW kk ii) = (0 : Int32)
        · refine own_go (fun t k => XS.ifNo X18.here hx rfl (hb hby at_173) rfl ((if0 _ _).trans (teq hc173).2) k) ?_
          refine own_go (fun t k => XS.iload X18.here hx rfl (hb hby at_176) rfl  k) ?_
          show own_Run p e below Φ (T18.setTop (mkF m 178 #[.val (.int p1), .val (.long q2), .second, .val (.long q3), .second, .val (.long q4), .second, .val (.int p5), .val (.int p6), .val (.int (0 : Int32)), .val (.long nn), .second, .val (.long ii), .second, .val (.long jj), .second, .val (.long kk), .second, .val (.ref b1), .val (.int ((own_upd (own_upd own_z ii p5) jj p6) ii)), .val (.int ((own_upd (own_upd own_z ii p5) jj p6) jj)), .val (.int ((own_upd (own_upd own_z ii p5) jj p6) kk)), .val (.int p5), .unset] [(.int p5)]))
          refine own_go (fun t k => XS.istore X18.here hx rfl (hb hby at_178) rfl (l' := #[.val (.int p1), .val (.long q2), .second, .val (.long q3), .second, .val (.long q4), .second, .val (.int p5), .val (.int p6), .val (.int (0 : Int32)), .val (.long nn), .second, .val (.long ii), .second, .val (.long jj), .second, .val (.long kk), .second, .val (.ref b1), .val (.int ((own_upd (own_upd own_z ii p5) jj p6) ii)), .val (.int ((own_upd (own_upd own_z ii p5) jj p6) jj)), .val (.int ((own_upd (own_upd own_z ii p5) jj p6) kk)), .val (.int p5), .val (.int p5)]) rfl k) ?_
          refine own_go (fun t k => XS.goto X18.here hx rfl (pc0 := 180) (pc' := 186) rfl (hb hby at_180) (by decide) (by decide) k) ?_
          refine own_go (fun t k => XS.iload X18.here hx rfl (hb hby at_186) rfl  k) ?_
          refine own_go (fun t k => XS.iload X18.here hx rfl (hb hby at_188) rfl  k) ?_
          have hc190 : ((own_upd (own_upd own_z ii p5) jj p6) ii) = p5 := ((own_u2 hc141).trans own_u1')
          refine own_go (fun t k => XS.icmpNo X18.here hx rfl (hb hby at_190) rfl (teq hc190).2 k) ?_
          show own_Run p e below Φ (T18.setTop (mkF m 193 #[.val (.int p1), .val (.long q2), .second, .val (.long q3), .second, .val (.long q4), .second, .val (.int p5), .val (.int p6), .val (.int (0 : Int32)), .val (.long nn), .second, .val (.long ii), .second, .val (.long jj), .second, .val (.long kk), .second, .val (.ref b1), .val (.int ((own_upd (own_upd own_z ii p5) jj p6) ii)), .val (.int ((own_upd (own_upd own_z ii p5) jj p6) jj)), .val (.int ((own_upd (own_upd own_z ii p5) jj p6) kk)), .val (.int p5), .val (.int p5)] []))
          refine own_go (fun t k => XS.iload X18.here hx rfl (hb hby at_193) rfl  k) ?_
          refine own_go (fun t k => XS.iload X18.here hx rfl (hb hby at_195) rfl  k) ?_
          have hc197 : ((own_upd (own_upd own_z ii p5) jj p6) jj) = p6 := own_u1'
          refine own_go (fun t k => XS.icmpNo X18.here hx rfl (hb hby at_197) rfl (teq hc197).2 k) ?_
          refine own_go (fun t k => XS.iload X18.here hx rfl (hb hby at_200) rfl  k) ?_
          refine own_go (fun t k => XS.iload X18.here hx rfl (hb hby at_202) rfl  k) ?_
          show own_Run p e below Φ (T18.setTop (mkF m 204 #[.val (.int p1), .val (.long q2), .second, .val (.long q3), .second, .val (.long q4), .second, .val (.int p5), .val (.int p6), .val (.int (0 : Int32)), .val (.long nn), .second, .val (.long ii), .second, .val (.long jj), .second, .val (.long kk), .second, .val (.ref b1), .val (.int ((own_upd (own_upd own_z ii p5) jj p6) ii)), .val (.int ((own_upd (own_upd own_z ii p5) jj p6) jj)), .val (.int ((own_upd (own_upd own_z ii p5) jj p6) kk)), .val (.int p5), .val (.int p5)] [(.int p5), (.int ((own_upd (own_upd own_z ii p5) jj p6) kk))]))
          have hc204 : ((own_upd (own_upd own_z ii p5) jj p6) kk) = p5 := ((own_u2 hc158).trans (own_u1 hc173))
          refine own_go (fun t k => XS.icmpNo X18.here hx rfl (hb hby at_204) rfl (teq hc204).2 k) ?_
          refine own_go (fun t k => XS.aload X18.here hx rfl (hb hby at_207) rfl rfl  k) ?_
          have F27 : Fld Z h12 b1 "com/example/hueline/hueline/model/BigIntArray" "length" "J" (.long nn) := ((P8_0.keep K9 (ninS ne_b1_x0 nin0)).keep K12 (ninS ne_b1_x0 nin0))
          refine own_callV X18 hx hZ (y := (⟨"com/example/hueline/hueline/model/BigIntArray", "length", "()J"⟩ : MethodName)) (z := (⟨"com/example/hueline/hueline/model/BigIntArray", "length", "()J"⟩ : MethodName)) (W := 0) (a := b1) (argsL := []) (rest := []) hown (hw _ (List.mem_of_getElem? (i := 59) rfl)) (hw _ (List.mem_of_getElem? (i := 60) rfl)) (notFace_of_selects (args := #[]) (mvT hZ (hw _ (List.mem_of_getElem? (i := 62) rfl)))) (hw _ (List.mem_of_getElem? (i := 62) rfl)) (hw _ (List.mem_of_getElem? (i := 61) rfl)) (by decide) (own_bk (rm_ln l Z a0 hw b1 nn h12 n0 F27) hZ (hw _ (List.mem_of_getElem? (i := 63) rfl)) (hw _ (List.mem_of_getElem? (i := 3) rfl)) (by decide) (by decide)) e18 F16 (g := (mkF m 209 #[.val (.int p1), .val (.long q2), .second, .val (.long q3), .second, .val (.long q4), .second, .val (.int p5), .val (.int p6), .val (.int (0 : Int32)), .val (.long nn), .second, .val (.long ii), .second, .val (.long jj), .second, .val (.long kk), .second, .val (.ref b1), .val (.int ((own_upd (own_upd own_z ii p5) jj p6) ii)), .val (.int ((own_upd (own_upd own_z ii p5) jj p6) jj)), .val (.int ((own_upd (own_upd own_z ii p5) jj p6) kk)), .val (.int p5), .val (.int p5)] [(.ref b1)])) rfl (by rw [hml]; rfl) (lenOf pd_7 rfl) rfl (by show 2 * 0 + _ ≤ _; exact Nat.le_of_eq rfl) (hb hby at_209) (by decide) (by decide) (fun v28 T28 h28 L28 X28 e28 q28 => ?_)
          obtain ⟨rfl, M28, s28⟩ := q28
          replace e28 : T28.heap = h12 := e28.trans s28
          have N28 := Fr.app N18 M28
          refine own_go (fun t k => XS.lload X28.here hx rfl (hb hby at_212) rfl  k) ?_
          refine own_go (fun t k => XS.lcmp X28.here hx rfl (hb hby at_214) rfl k) ?_
          show own_Run p e below Φ (T28.setTop (mkF m 215 #[.val (.int p1), .val (.long q2), .second, .val (.long q3), .second, .val (.long q4), .second, .val (.int p5), .val (.int p6), .val (.int (0 : Int32)), .val (.long nn), .second, .val (.long ii), .second, .val (.long jj), .second, .val (.long kk), .second, .val (.ref b1), .val (.int ((own_upd (own_upd own_z ii p5) jj p6) ii)), .val (.int ((own_upd (own_upd own_z ii p5) jj p6) jj)), .val (.int ((own_upd (own_upd own_z ii p5) jj p6) kk)), .val (.int p5), .val (.int p5)] [(.int (lcmpW nn nn))]))
          have hc215 : (lcmpW nn nn) = (0 : Int32) := ((lw_eq _ _).mpr rfl)
          refine own_go (fun t k => XS.ifNo X28.here hx rfl (hb hby at_215) rfl ((if0 _ _).trans (teq hc215).2) k) ?_
          refine own_go (fun t k => XS.iconst X28.here hx rfl (hb hby at_218) k) ?_
          refine own_go (fun t k => XS.goto X28.here hx rfl (pc0 := 219) (pc' := 223) rfl (hb hby at_219) (by decide) (by decide) k) ?_
          subst hΦ
          exact own_retN X28 hx (t := .boolean) Bd.returns (by simp) hlk (hb hby at_223) e28 ⟨rfl, N28⟩ (by decide) (by decide)
        · refine own_go (fun t k => XS.ifYes X18.here hx rfl (pc0 := 173) (pc' := 183) rfl (hb hby at_173) rfl ((if0 _ _).trans (feq hc173).2) (by decide) (by decide) k) ?_
          refine own_go (fun t k => XS.iconst X18.here hx rfl (hb hby at_183) k) ?_
          show own_Run p e below Φ (T18.setTop (mkF m 184 #[.val (.int p1), .val (.long q2), .second, .val (.long q3), .second, .val (.long q4), .second, .val (.int p5), .val (.int p6), .val (.int (0 : Int32)), .val (.long nn), .second, .val (.long ii), .second, .val (.long jj), .second, .val (.long kk), .second, .val (.ref b1), .val (.int ((own_upd (own_upd own_z ii p5) jj p6) ii)), .val (.int ((own_upd (own_upd own_z ii p5) jj p6) jj)), .val (.int ((own_upd (own_upd own_z ii p5) jj p6) kk)), .val (.int p5), .unset] [(.int (0 : Int32))]))
          refine own_go (fun t k => XS.istore X18.here hx rfl (hb hby at_184) rfl (l' := #[.val (.int p1), .val (.long q2), .second, .val (.long q3), .second, .val (.long q4), .second, .val (.int p5), .val (.int p6), .val (.int (0 : Int32)), .val (.long nn), .second, .val (.long ii), .second, .val (.long jj), .second, .val (.long kk), .second, .val (.ref b1), .val (.int ((own_upd (own_upd own_z ii p5) jj p6) ii)), .val (.int ((own_upd (own_upd own_z ii p5) jj p6) jj)), .val (.int ((own_upd (own_upd own_z ii p5) jj p6) kk)), .val (.int p5), .val (.int (0 : Int32))]) rfl k) ?_
          refine own_go (fun t k => XS.iload X18.here hx rfl (hb hby at_186) rfl  k) ?_
          refine own_go (fun t k => XS.iload X18.here hx rfl (hb hby at_188) rfl  k) ?_
          have hc190 : ((own_upd (own_upd own_z ii p5) jj p6) ii) = p5 := ((own_u2 hc141).trans own_u1')
          refine own_go (fun t k => XS.icmpNo X18.here hx rfl (hb hby at_190) rfl (teq hc190).2 k) ?_
          refine own_go (fun t k => XS.iload X18.here hx rfl (hb hby at_193) rfl  k) ?_
          show own_Run p e below Φ (T18.setTop (mkF m 195 #[.val (.int p1), .val (.long q2), .second, .val (.long q3), .second, .val (.long q4), .second, .val (.int p5), .val (.int p6), .val (.int (0 : Int32)), .val (.long nn), .second, .val (.long ii), .second, .val (.long jj), .second, .val (.long kk), .second, .val (.ref b1), .val (.int ((own_upd (own_upd own_z ii p5) jj p6) ii)), .val (.int ((own_upd (own_upd own_z ii p5) jj p6) jj)), .val (.int ((own_upd (own_upd own_z ii p5) jj p6) kk)), .val (.int p5), .val (.int (0 : Int32))] [(.int ((own_upd (own_upd own_z ii p5) jj p6) jj))]))
          refine own_go (fun t k => XS.iload X18.here hx rfl (hb hby at_195) rfl  k) ?_
          have hc197 : ((own_upd (own_upd own_z ii p5) jj p6) jj) = p6 := own_u1'
          refine own_go (fun t k => XS.icmpNo X18.here hx rfl (hb hby at_197) rfl (teq hc197).2 k) ?_
          refine own_go (fun t k => XS.iload X18.here hx rfl (hb hby at_200) rfl  k) ?_
          refine own_go (fun t k => XS.iload X18.here hx rfl (hb hby at_202) rfl  k) ?_
          have hc204 : ((own_upd (own_upd own_z ii p5) jj p6) kk) = (0 : Int32) := ((own_u2 hc158).trans (own_u2 hc173))
          refine own_go (fun t k => XS.icmpNo X18.here hx rfl (hb hby at_204) rfl (teq hc204).2 k) ?_
          show own_Run p e below Φ (T18.setTop (mkF m 207 #[.val (.int p1), .val (.long q2), .second, .val (.long q3), .second, .val (.long q4), .second, .val (.int p5), .val (.int p6), .val (.int (0 : Int32)), .val (.long nn), .second, .val (.long ii), .second, .val (.long jj), .second, .val (.long kk), .second, .val (.ref b1), .val (.int ((own_upd (own_upd own_z ii p5) jj p6) ii)), .val (.int ((own_upd (own_upd own_z ii p5) jj p6) jj)), .val (.int ((own_upd (own_upd own_z ii p5) jj p6) kk)), .val (.int p5), .val (.int (0 : Int32))] []))
          refine own_go (fun t k => XS.aload X18.here hx rfl (hb hby at_207) rfl rfl  k) ?_
          have F29 : Fld Z h12 b1 "com/example/hueline/hueline/model/BigIntArray" "length" "J" (.long nn) := ((P8_0.keep K9 (ninS ne_b1_x0 nin0)).keep K12 (ninS ne_b1_x0 nin0))
          refine own_callV X18 hx hZ (y := (⟨"com/example/hueline/hueline/model/BigIntArray", "length", "()J"⟩ : MethodName)) (z := (⟨"com/example/hueline/hueline/model/BigIntArray", "length", "()J"⟩ : MethodName)) (W := 0) (a := b1) (argsL := []) (rest := []) hown (hw _ (List.mem_of_getElem? (i := 59) rfl)) (hw _ (List.mem_of_getElem? (i := 60) rfl)) (notFace_of_selects (args := #[]) (mvT hZ (hw _ (List.mem_of_getElem? (i := 62) rfl)))) (hw _ (List.mem_of_getElem? (i := 62) rfl)) (hw _ (List.mem_of_getElem? (i := 61) rfl)) (by decide) (own_bk (rm_ln l Z a0 hw b1 nn h12 n0 F29) hZ (hw _ (List.mem_of_getElem? (i := 63) rfl)) (hw _ (List.mem_of_getElem? (i := 3) rfl)) (by decide) (by decide)) e18 F16 (g := (mkF m 209 #[.val (.int p1), .val (.long q2), .second, .val (.long q3), .second, .val (.long q4), .second, .val (.int p5), .val (.int p6), .val (.int (0 : Int32)), .val (.long nn), .second, .val (.long ii), .second, .val (.long jj), .second, .val (.long kk), .second, .val (.ref b1), .val (.int ((own_upd (own_upd own_z ii p5) jj p6) ii)), .val (.int ((own_upd (own_upd own_z ii p5) jj p6) jj)), .val (.int ((own_upd (own_upd own_z ii p5) jj p6) kk)), .val (.int p5), .val (.int (0 : Int32))] [(.ref b1)])) rfl (by rw [hml]; rfl) (lenOf pd_7 rfl) rfl (by show 2 * 0 + _ ≤ _; exact Nat.le_of_eq rfl) (hb hby at_209) (by decide) (by decide) (fun v30 T30 h30 L30 X30 e30 q30 => ?_)
          obtain ⟨rfl, M30, s30⟩ := q30
          replace e30 : T30.heap = h12 := e30.trans s30
          have N30 := Fr.app N18 M30
          refine own_go (fun t k => XS.lload X30.here hx rfl (hb hby at_212) rfl  k) ?_
          refine own_go (fun t k => XS.lcmp X30.here hx rfl (hb hby at_214) rfl k) ?_
          have hc215 : (lcmpW nn nn) = (0 : Int32) := ((lw_eq _ _).mpr rfl)
          refine own_go (fun t k => XS.ifNo X30.here hx rfl (hb hby at_215) rfl ((if0 _ _).trans (teq hc215).2) k) ?_
          show own_Run p e below Φ (T30.setTop (mkF m 218 #[.val (.int p1), .val (.long q2), .second, .val (.long q3), .second, .val (.long q4), .second, .val (.int p5), .val (.int p6), .val (.int (0 : Int32)), .val (.long nn), .second, .val (.long ii), .second, .val (.long jj), .second, .val (.long kk), .second, .val (.ref b1), .val (.int ((own_upd (own_upd own_z ii p5) jj p6) ii)), .val (.int ((own_upd (own_upd own_z ii p5) jj p6) jj)), .val (.int ((own_upd (own_upd own_z ii p5) jj p6) kk)), .val (.int p5), .val (.int (0 : Int32))] []))
          refine own_go (fun t k => XS.iconst X30.here hx rfl (hb hby at_218) k) ?_
          refine own_go (fun t k => XS.goto X30.here hx rfl (pc0 := 219) (pc' := 223) rfl (hb hby at_219) (by decide) (by decide) k) ?_
          subst hΦ
          exact own_retN X30 hx (t := .boolean) Bd.returns (by simp) hlk (hb hby at_223) e30 ⟨rfl, N30⟩ (by decide) (by decide)
  · refine own_go (fun t k => XS.ifNo X0.here hx rfl (hb hby at_3) rfl ((if0 _ _).trans (feq hc3).1) k) ?_
    refine own_go (fun t k => XS.iconst X0.here hx rfl (hb hby at_6) k) ?_
    refine own_go (fun t k => XS.goto X0.here hx rfl (pc0 := 7) (pc' := 11) rfl (hb hby at_7) (by decide) (by decide) k) ?_
    show own_Run p e below Φ (s₁.setTop (mkF m 11 #[.val (.int p1), .val (.long q2), .second, .val (.long q3), .second, .val (.long q4), .second, .val (.int p5), .val (.int p6), .unset, .unset, .unset, .unset, .unset, .unset, .unset, .unset, .unset, .unset, .unset, .unset, .unset, .unset, .unset] [(.int (1 : Int32))]))
    refine own_go (fun t k => XS.istore X0.here hx rfl (hb hby at_11) rfl (l' := #[.val (.int p1), .val (.long q2), .second, .val (.long q3), .second, .val (.long q4), .second, .val (.int p5), .val (.int p6), .val (.int (1 : Int32)), .unset, .unset, .unset, .unset, .unset, .unset, .unset, .unset, .unset, .unset, .unset, .unset, .unset, .unset]) rfl k) ?_
    refine own_go (fun t k => XS.iconst X0.here hx rfl (hb hby at_13) k) ?_
    refine own_go (fun t k => XS.iloadN X0.here hx rfl (hb hby at_14) rfl  k) ?_
    refine own_go (fun t k => XS.iconst X0.here hx rfl (hb hby at_15) k) ?_
    refine own_go (fun t k => XS.iushr X0.here hx rfl (hb hby at_16) rfl k) ?_
    show own_Run p e below Φ (s₁.setTop (mkF m 17 #[.val (.int p1), .val (.long q2), .second, .val (.long q3), .second, .val (.long q4), .second, .val (.int p5), .val (.int p6), .val (.int (1 : Int32)), .unset, .unset, .unset, .unset, .unset, .unset, .unset, .unset, .unset, .unset, .unset, .unset, .unset, .unset] [(.int ((p1.toUInt32 >>> ((1 : Int32) &&& 31).toUInt32).toInt32)), (.int (1 : Int32))]))
    refine own_go (fun t k => XS.bipush X0.here hx rfl (hb hby at_17) k) ?_
    refine own_go (fun t k => XS.iand X0.here hx rfl (hb hby at_19) rfl k) ?_
    refine own_go (fun t k => XS.iadd X0.here hx rfl (hb hby at_20) rfl k) ?_
    refine own_go (fun t k => XS.i2l X0.here hx rfl (hb hby at_21) rfl k) ?_
    refine own_go (fun t k => XS.lstore X0.here hx rfl (hb hby at_22) rfl (l' := #[.val (.int p1), .val (.long q2), .second, .val (.long q3), .second, .val (.long q4), .second, .val (.int p5), .val (.int p6), .val (.int (1 : Int32)), .val (.long (((1 : Int32) + (((p1.toUInt32 >>> ((1 : Int32) &&& 31).toUInt32).toInt32) &&& (15 : Int32))).toInt64)), .second, .unset, .unset, .unset, .unset, .unset, .unset, .unset, .unset, .unset, .unset, .unset, .unset]) rfl k) ?_
    show own_Run p e below Φ (s₁.setTop (mkF m 24 #[.val (.int p1), .val (.long q2), .second, .val (.long q3), .second, .val (.long q4), .second, .val (.int p5), .val (.int p6), .val (.int (1 : Int32)), .val (.long (((1 : Int32) + (((p1.toUInt32 >>> ((1 : Int32) &&& 31).toUInt32).toInt32) &&& (15 : Int32))).toInt64)), .second, .unset, .unset, .unset, .unset, .unset, .unset, .unset, .unset, .unset, .unset, .unset, .unset] []))
    have hnn := own_nn p1
    generalize enn : (((1 : Int32) + (((p1.toUInt32 >>> ((1 : Int32) &&& 31).toUInt32).toInt32) &&& (15 : Int32))).toInt64) = nn at hnn ⊢
    show own_Run p e below Φ (s₁.setTop (mkF m 24 #[.val (.int p1), .val (.long q2), .second, .val (.long q3), .second, .val (.long q4), .second, .val (.int p5), .val (.int p6), .val (.int (1 : Int32)), .val (.long nn), .second, .unset, .unset, .unset, .unset, .unset, .unset, .unset, .unset, .unset, .unset, .unset, .unset] []))
    refine own_go (fun t k => XS.lloadN X0.here hx rfl (hb hby at_24) rfl  k) ?_
    refine own_go (X0.ldc2Long hx hown (mvT hZ (hw _ (List.mem_of_getElem? (i := 0) rfl))) (g := (mkF m 25 #[.val (.int p1), .val (.long q2), .second, .val (.long q3), .second, .val (.long q4), .second, .val (.int p5), .val (.int p6), .val (.int (1 : Int32)), .val (.long nn), .second, .unset, .unset, .unset, .unset, .unset, .unset, .unset, .unset, .unset, .unset, .unset, .unset] [(.long q2)])) rfl (hb hby at_25)) ?_
    refine own_go (fun t k => XS.land X0.here hx rfl (hb hby at_28) rfl k) ?_
    refine own_go (fun t k => XS.lload X0.here hx rfl (hb hby at_29) rfl  k) ?_
    refine own_go (fun t k => XS.lrem X0.here hx rfl (hb hby at_31) rfl (own_ne0 hnn.1) k) ?_
    show own_Run p e below Φ (s₁.setTop (mkF m 32 #[.val (.int p1), .val (.long q2), .second, .val (.long q3), .second, .val (.long q4), .second, .val (.int p5), .val (.int p6), .val (.int (1 : Int32)), .val (.long nn), .second, .unset, .unset, .unset, .unset, .unset, .unset, .unset, .unset, .unset, .unset, .unset, .unset] [(.long ((q2 &&& (9223372036854775807 : Int64)) - (q2 &&& (9223372036854775807 : Int64)) / nn * nn))]))
    refine own_go (fun t k => XS.lstore X0.here hx rfl (hb hby at_32) rfl (l' := #[.val (.int p1), .val (.long q2), .second, .val (.long q3), .second, .val (.long q4), .second, .val (.int p5), .val (.int p6), .val (.int (1 : Int32)), .val (.long nn), .second, .val (.long ((q2 &&& (9223372036854775807 : Int64)) - (q2 &&& (9223372036854775807 : Int64)) / nn * nn)), .second, .unset, .unset, .unset, .unset, .unset, .unset, .unset, .unset, .unset, .unset]) rfl k) ?_
    refine own_go (fun t k => XS.lloadN X0.here hx rfl (hb hby at_34) rfl  k) ?_
    refine own_go (X0.ldc2Long hx hown (mvT hZ (hw _ (List.mem_of_getElem? (i := 0) rfl))) (g := (mkF m 35 #[.val (.int p1), .val (.long q2), .second, .val (.long q3), .second, .val (.long q4), .second, .val (.int p5), .val (.int p6), .val (.int (1 : Int32)), .val (.long nn), .second, .val (.long ((q2 &&& (9223372036854775807 : Int64)) - (q2 &&& (9223372036854775807 : Int64)) / nn * nn)), .second, .unset, .unset, .unset, .unset, .unset, .unset, .unset, .unset, .unset, .unset] [(.long q3)])) rfl (hb hby at_35)) ?_
    refine own_go (fun t k => XS.land X0.here hx rfl (hb hby at_38) rfl k) ?_
    refine own_go (fun t k => XS.lload X0.here hx rfl (hb hby at_39) rfl  k) ?_
    show own_Run p e below Φ (s₁.setTop (mkF m 41 #[.val (.int p1), .val (.long q2), .second, .val (.long q3), .second, .val (.long q4), .second, .val (.int p5), .val (.int p6), .val (.int (1 : Int32)), .val (.long nn), .second, .val (.long ((q2 &&& (9223372036854775807 : Int64)) - (q2 &&& (9223372036854775807 : Int64)) / nn * nn)), .second, .unset, .unset, .unset, .unset, .unset, .unset, .unset, .unset, .unset, .unset] [(.long nn), (.long (q3 &&& (9223372036854775807 : Int64)))]))
    refine own_go (fun t k => XS.lrem X0.here hx rfl (hb hby at_41) rfl (own_ne0 hnn.1) k) ?_
    refine own_go (fun t k => XS.lstore X0.here hx rfl (hb hby at_42) rfl (l' := #[.val (.int p1), .val (.long q2), .second, .val (.long q3), .second, .val (.long q4), .second, .val (.int p5), .val (.int p6), .val (.int (1 : Int32)), .val (.long nn), .second, .val (.long ((q2 &&& (9223372036854775807 : Int64)) - (q2 &&& (9223372036854775807 : Int64)) / nn * nn)), .second, .val (.long ((q3 &&& (9223372036854775807 : Int64)) - (q3 &&& (9223372036854775807 : Int64)) / nn * nn)), .second, .unset, .unset, .unset, .unset, .unset, .unset, .unset, .unset]) rfl k) ?_
    refine own_go (fun t k => XS.lload X0.here hx rfl (hb hby at_44) rfl  k) ?_
    refine own_go (X0.ldc2Long hx hown (mvT hZ (hw _ (List.mem_of_getElem? (i := 0) rfl))) (g := (mkF m 46 #[.val (.int p1), .val (.long q2), .second, .val (.long q3), .second, .val (.long q4), .second, .val (.int p5), .val (.int p6), .val (.int (1 : Int32)), .val (.long nn), .second, .val (.long ((q2 &&& (9223372036854775807 : Int64)) - (q2 &&& (9223372036854775807 : Int64)) / nn * nn)), .second, .val (.long ((q3 &&& (9223372036854775807 : Int64)) - (q3 &&& (9223372036854775807 : Int64)) / nn * nn)), .second, .unset, .unset, .unset, .unset, .unset, .unset, .unset, .unset] [(.long q4)])) rfl (hb hby at_46)) ?_
    refine own_go (fun t k => XS.land X0.here hx rfl (hb hby at_49) rfl k) ?_
    show own_Run p e below Φ (s₁.setTop (mkF m 50 #[.val (.int p1), .val (.long q2), .second, .val (.long q3), .second, .val (.long q4), .second, .val (.int p5), .val (.int p6), .val (.int (1 : Int32)), .val (.long nn), .second, .val (.long ((q2 &&& (9223372036854775807 : Int64)) - (q2 &&& (9223372036854775807 : Int64)) / nn * nn)), .second, .val (.long ((q3 &&& (9223372036854775807 : Int64)) - (q3 &&& (9223372036854775807 : Int64)) / nn * nn)), .second, .unset, .unset, .unset, .unset, .unset, .unset, .unset, .unset] [(.long (q4 &&& (9223372036854775807 : Int64)))]))
    refine own_go (fun t k => XS.lload X0.here hx rfl (hb hby at_50) rfl  k) ?_
    refine own_go (fun t k => XS.lrem X0.here hx rfl (hb hby at_52) rfl (own_ne0 hnn.1) k) ?_
    refine own_go (fun t k => XS.lstore X0.here hx rfl (hb hby at_53) rfl (l' := #[.val (.int p1), .val (.long q2), .second, .val (.long q3), .second, .val (.long q4), .second, .val (.int p5), .val (.int p6), .val (.int (1 : Int32)), .val (.long nn), .second, .val (.long ((q2 &&& (9223372036854775807 : Int64)) - (q2 &&& (9223372036854775807 : Int64)) / nn * nn)), .second, .val (.long ((q3 &&& (9223372036854775807 : Int64)) - (q3 &&& (9223372036854775807 : Int64)) / nn * nn)), .second, .val (.long ((q4 &&& (9223372036854775807 : Int64)) - (q4 &&& (9223372036854775807 : Int64)) / nn * nn)), .second, .unset, .unset, .unset, .unset, .unset, .unset]) rfl k) ?_
    show own_Run p e below Φ (s₁.setTop (mkF m 55 #[.val (.int p1), .val (.long q2), .second, .val (.long q3), .second, .val (.long q4), .second, .val (.int p5), .val (.int p6), .val (.int (1 : Int32)), .val (.long nn), .second, .val (.long ((q2 &&& (9223372036854775807 : Int64)) - (q2 &&& (9223372036854775807 : Int64)) / nn * nn)), .second, .val (.long ((q3 &&& (9223372036854775807 : Int64)) - (q3 &&& (9223372036854775807 : Int64)) / nn * nn)), .second, .val (.long ((q4 &&& (9223372036854775807 : Int64)) - (q4 &&& (9223372036854775807 : Int64)) / nn * nn)), .second, .unset, .unset, .unset, .unset, .unset, .unset] []))
    have hii := own_rem (x := q2) hnn.1
    generalize eii : ((q2 &&& (9223372036854775807 : Int64)) - (q2 &&& (9223372036854775807 : Int64)) / nn * nn) = ii at hii ⊢
    have hjj := own_rem (x := q3) hnn.1
    generalize ejj : ((q3 &&& (9223372036854775807 : Int64)) - (q3 &&& (9223372036854775807 : Int64)) / nn * nn) = jj at hjj ⊢
    have hkk := own_rem (x := q4) hnn.1
    generalize ekk : ((q4 &&& (9223372036854775807 : Int64)) - (q4 &&& (9223372036854775807 : Int64)) / nn * nn) = kk at hkk ⊢
    show own_Run p e below Φ (s₁.setTop (mkF m 55 #[.val (.int p1), .val (.long q2), .second, .val (.long q3), .second, .val (.long q4), .second, .val (.int p5), .val (.int p6), .val (.int (1 : Int32)), .val (.long nn), .second, .val (.long ii), .second, .val (.long jj), .second, .val (.long kk), .second, .unset, .unset, .unset, .unset, .unset, .unset] []))
    refine own_go (fun t k => XS.iload X0.here hx rfl (hb hby at_55) rfl  k) ?_
    refine own_go (fun t k => XS.ifNo X0.here hx rfl (hb hby at_57) rfl ((if0 _ _).trans (feq (by decide : ¬ ((1 : Int32) = (0 : Int32)))).1) k) ?_
    show own_Run p e below Φ (s₁.setTop (mkF m 60 #[.val (.int p1), .val (.long q2), .second, .val (.long q3), .second, .val (.long q4), .second, .val (.int p5), .val (.int p6), .val (.int (1 : Int32)), .val (.long nn), .second, .val (.long ii), .second, .val (.long jj), .second, .val (.long kk), .second, .unset, .unset, .unset, .unset, .unset, .unset] []))
    have hcs : (0 < nn.toInt ∧ nn.toInt ≤ 4) ∨ (4 < nn.toInt ∧ nn.toInt ≤ 8) ∨ (8 < nn.toInt ∧ nn.toInt ≤ 12) ∨ (12 < nn.toInt ∧ nn.toInt ≤ 16) := by omega
    rcases hcs with hcs | hcs | hcs | hcs
    · obtain ⟨zl, hzl⟩ := own_ex (n := nn) 0 (by decide) (by omega)
      show own_Run p e below Φ (s₁.setTop (mkF m 60 #[.val (.int p1), .val (.long q2), .second, .val (.long q3), .second, .val (.long q4), .second, .val (.int p5), .val (.int p6), .val (.int (1 : Int32)), .val (.long nn), .second, .val (.long ii), .second, .val (.long jj), .second, .val (.long kk), .second, .unset, .unset, .unset, .unset, .unset, .unset] []))
      obtain ⟨T31, h31, X31, e31, E31, A31, D31, -, st31⟩ := newO X0 hx hZ hown (hw _ (List.mem_of_getElem? (i := 1) rfl)) (hw _ (List.mem_of_getElem? (i := 2) rfl)) (hw _ (List.mem_of_getElem? (i := 3) rfl)) e0 (g := (mkF m 60 #[.val (.int p1), .val (.long q2), .second, .val (.long q3), .second, .val (.long q4), .second, .val (.int p5), .val (.int p6), .val (.int (1 : Int32)), .val (.long nn), .second, .val (.long ii), .second, .val (.long jj), .second, .val (.long kk), .second, .unset, .unset, .unset, .unset, .unset, .unset] [])) rfl (hb hby at_60) (by decide) (by decide)
      refine own_go st31 ?_
      obtain ⟨b31, g31⟩ : ∃ z, z = h0.size := ⟨_, rfl⟩
      rw [← g31] at A31 D31 ⊢
      have G32 : Fld Z h31 b31 "com/example/hueline/hueline/model/BigIntArray" "layout" "Lcom/example/hueline/hueline/model/Pages;" .null := D31 (Or.inr (hw _ (List.mem_of_getElem? (i := 17) rfl))) (ty := (.object "com/example/hueline/hueline/model/Pages")) (by decide)
      have G33 : Fld Z h31 b31 "com/example/hueline/hueline/model/BigIntArray" "pages" "[[I" .null := D31 (Or.inl (hw _ (List.mem_of_getElem? (i := 31) rfl))) (ty := (.array (.array .int))) (by decide)
      have G34 : Fld Z h31 b31 "com/example/hueline/hueline/model/BigIntArray" "length" "J" (.long (0 : Int64)) := D31 (Or.inl (hw _ (List.mem_of_getElem? (i := 33) rfl))) (ty := .long) (by decide)
      have G35 : Fld Z h31 b31 "com/example/hueline/hueline/model/BigIntArray" "flat" "[I" .null := D31 (Or.inl (hw _ (List.mem_of_getElem? (i := 48) rfl))) (ty := (.array .int)) (by decide)
      refine own_go (fun t k => XS.dup X31.here hx rfl (hb hby at_63) rfl rfl k) ?_
      refine own_go (fun t k => XS.lload X31.here hx rfl (hb hby at_64) rfl  k) ?_
      have F37 : n0 ≤ h31.size := (Nat.le_trans Z0 E31.1)
      obtain ⟨T36, h36, X36, e36, E36, A36, D36, -, st36⟩ := newO X31 hx hZ hown (hw _ (List.mem_of_getElem? (i := 64) rfl)) (hw _ (List.mem_of_getElem? (i := 65) rfl)) (hw _ (List.mem_of_getElem? (i := 8) rfl)) e31 (g := (mkF m 66 #[.val (.int p1), .val (.long q2), .second, .val (.long q3), .second, .val (.long q4), .second, .val (.int p5), .val (.int p6), .val (.int (1 : Int32)), .val (.long nn), .second, .val (.long ii), .second, .val (.long jj), .second, .val (.long kk), .second, .unset, .unset, .unset, .unset, .unset, .unset] [(.long nn), (.ref b31), (.ref b31)])) rfl (hb hby at_66) (by decide) (by decide)
      refine own_go st36 ?_
      obtain ⟨b36, g36⟩ : ∃ z, z = h31.size := ⟨_, rfl⟩
      rw [← g36] at A36 D36 ⊢
      have ne_b31_b36 : b31 ≠ b36 := Nat.ne_of_lt (Nat.lt_of_lt_of_le A31.lt (Nat.le_of_eq g36.symm))
      have G38 : Fld Z h36 b36 "com/example/hueline/hueline/model/Pages" "mask" "I" (.int (0 : Int32)) := D36 (Or.inr (hw _ (List.mem_of_getElem? (i := 24) rfl))) (ty := .int) (by decide)
      have G39 : Fld Z h36 b36 "com/example/hueline/hueline/model/Pages" "shift" "I" (.int (0 : Int32)) := D36 (Or.inr (hw _ (List.mem_of_getElem? (i := 26) rfl))) (ty := .int) (by decide)
      have G40 : Fld Z h36 b36 "com/example/hueline/hueline/model/Pages" "length" "I" (.int (0 : Int32)) := D36 (Or.inr (hw _ (List.mem_of_getElem? (i := 40) rfl))) (ty := .int) (by decide)
      refine own_go (fun t k => XS.dup X36.here hx rfl (hb hby at_69) rfl rfl k) ?_
      show own_Run p e below Φ (T36.setTop (mkF m 70 #[.val (.int p1), .val (.long q2), .second, .val (.long q3), .second, .val (.long q4), .second, .val (.int p5), .val (.int p6), .val (.int (1 : Int32)), .val (.long nn), .second, .val (.long ii), .second, .val (.long jj), .second, .val (.long kk), .second, .unset, .unset, .unset, .unset, .unset, .unset] [(.ref b36), (.ref b36), (.long nn), (.ref b31), (.ref b31)]))
      refine own_go (fun t k => XS.iconst X36.here hx rfl (hb hby at_70) k) ?_
      refine own_callI X36 hx hZ (y := (⟨"com/example/hueline/hueline/model/Pages", "<init>", "(I)V"⟩ : MethodName)) (W := 5) (a := b36) (argsL := [(.int (2 : Int32))]) (rest := [(.ref b36), (.long nn), (.ref b31), (.ref b31)]) rfl hown (hw _ (List.mem_of_getElem? (i := 66) rfl)) (hw _ (List.mem_of_getElem? (i := 67) rfl)) (hw _ (List.mem_of_getElem? (i := 68) rfl)) (by decide) (own_bk (rm_pi l Z a0 hw b36 h36 n0 A36 G38 G39 G40 (Nat.le_trans F37 (Nat.le_of_eq g36.symm))) hZ (hw _ (List.mem_of_getElem? (i := 68) rfl)) (hw _ (List.mem_of_getElem? (i := 8) rfl)) (by decide) (by decide)) e36 (g := (mkF m 71 #[.val (.int p1), .val (.long q2), .second, .val (.long q3), .second, .val (.long q4), .second, .val (.int p5), .val (.int p6), .val (.int (1 : Int32)), .val (.long nn), .second, .val (.long ii), .second, .val (.long jj), .second, .val (.long kk), .second, .unset, .unset, .unset, .unset, .unset, .unset] [(.int (2 : Int32)), (.ref b36), (.ref b36), (.long nn), (.ref b31), (.ref b31)])) rfl (by rw [hml]; rfl) (lenOf pd_8 rfl) rfl (by show 2 * 0 + _ ≤ _; exact Nat.le_of_eq rfl) (hb hby at_71) (by decide) (by decide) (fun v41 T41 h41 L41 X41 e41 q41 => ?_)
      obtain ⟨rfl, M41, K41, P41_0, P41_1, P41_2⟩ := q41
      have N41 := Fr.app N0 M41
      have F42 : Exa Z h41 b31 "com/example/hueline/hueline/model/BigIntArray" := ((A31.ext E36).keep K41)
      have F43 : Exa Z h41 b36 "com/example/hueline/hueline/model/Pages" := (A36.keep K41)
      have F44 : Fld Z h41 b31 "com/example/hueline/hueline/model/BigIntArray" "layout" "Lcom/example/hueline/hueline/model/Pages;" .null := ((G32.ext E36).keep K41 (ninS ne_b31_b36 nin0))
      have F45 : Fld Z h41 b31 "com/example/hueline/hueline/model/BigIntArray" "pages" "[[I" .null := ((G33.ext E36).keep K41 (ninS ne_b31_b36 nin0))
      have F46 : Fld Z h41 b31 "com/example/hueline/hueline/model/BigIntArray" "length" "J" (.long (0 : Int64)) := ((G34.ext E36).keep K41 (ninS ne_b31_b36 nin0))
      have F47 : Fld Z h41 b31 "com/example/hueline/hueline/model/BigIntArray" "flat" "[I" .null := ((G35.ext E36).keep K41 (ninS ne_b31_b36 nin0))
      have F48 : n0 ≤ h41.size := (Nat.le_trans (Nat.le_trans F37 E36.1) K41.1)
      refine own_callI X41 hx hZ (y := (⟨"com/example/hueline/hueline/model/BigIntArray", "<init>", "(JLcom/example/hueline/hueline/model/Pages;)V"⟩ : MethodName)) (W := 1) (a := b31) (argsL := [(.long nn), (.ref b36)]) (rest := [(.ref b31)]) rfl hown (hw _ (List.mem_of_getElem? (i := 70) rfl)) (hw _ (List.mem_of_getElem? (i := 11) rfl)) (hw _ (List.mem_of_getElem? (i := 12) rfl)) (by decide) (own_bk (rm_ct1 l Z a0 hw b31 nn b36 zl h41 n0 F42 F44 F45 F46 F47 (Nat.le_trans Z0 (Nat.le_of_eq g31.symm)) F48 F43 P41_2 P41_0 P41_1 (Ne.symm ne_b31_b36) ⟨by omega, by omega⟩ (by omega)) hZ (hw _ (List.mem_of_getElem? (i := 12) rfl)) (hw _ (List.mem_of_getElem? (i := 3) rfl)) (by decide) (by decide)) e41 (g := (mkF m 74 #[.val (.int p1), .val (.long q2), .second, .val (.long q3), .second, .val (.long q4), .second, .val (.int p5), .val (.int p6), .val (.int (1 : Int32)), .val (.long nn), .second, .val (.long ii), .second, .val (.long jj), .second, .val (.long kk), .second, .unset, .unset, .unset, .unset, .unset, .unset] [(.ref b36), (.long nn), (.ref b31), (.ref b31)])) rfl (by rw [hml]; rfl) (lenOf pd_1 rfl) rfl (by show 2 * 0 + _ ≤ _; exact Nat.le_of_eq rfl) (hb hby at_74) (by decide) (by decide) (fun v49 T49 h49 L49 X49 e49 q49 => ?_)
      obtain ⟨rfl, M49, K49, P49_0, P49_1, P49_2⟩ := q49
      have N49 := Fr.app N41 M49
      obtain ⟨x0, k0, gx0, zx0, FF, Vx0⟩ := P49_2
      have ne_b31_x0 : b31 ≠ x0 := Nat.ne_of_lt (Nat.lt_of_lt_of_le F42.lt zx0)
      have ne_b36_x0 : b36 ≠ x0 := Nat.ne_of_lt (Nat.lt_of_lt_of_le F43.lt zx0)
      refine own_go (fun t k => XS.goto X49.here hx rfl (pc0 := 77) (pc' := 89) rfl (hb hby at_77) (by decide) (by decide) k) ?_
      refine own_go (fun t k => XS.astore X49.here hx rfl (hb hby at_89) rfl rfl (l' := #[.val (.int p1), .val (.long q2), .second, .val (.long q3), .second, .val (.long q4), .second, .val (.int p5), .val (.int p6), .val (.int (1 : Int32)), .val (.long nn), .second, .val (.long ii), .second, .val (.long jj), .second, .val (.long kk), .second, .val (.ref b31), .unset, .unset, .unset, .unset, .unset]) rfl k) ?_
      show own_Run p e below Φ (T49.setTop (mkF m 91 #[.val (.int p1), .val (.long q2), .second, .val (.long q3), .second, .val (.long q4), .second, .val (.int p5), .val (.int p6), .val (.int (1 : Int32)), .val (.long nn), .second, .val (.long ii), .second, .val (.long jj), .second, .val (.long kk), .second, .val (.ref b31), .unset, .unset, .unset, .unset, .unset] []))
      refine own_go (fun t k => XS.aload X49.here hx rfl (hb hby at_91) rfl rfl  k) ?_
      refine own_go (fun t k => XS.lload X49.here hx rfl (hb hby at_93) rfl  k) ?_
      refine own_go (fun t k => XS.iload X49.here hx rfl (hb hby at_95) rfl  k) ?_
      have F51 : Exa Z h49 b31 "com/example/hueline/hueline/model/BigIntArray" := (F42.keep K49)
      refine own_callV X49 hx hZ (y := (⟨"com/example/hueline/hueline/model/BigIntArray", "set", "(JI)V"⟩ : MethodName)) (z := (⟨"com/example/hueline/hueline/model/BigIntArray", "set", "(JI)V"⟩ : MethodName)) (W := 0) (a := b31) (argsL := [(.long ii), (.int p5)]) (rest := []) hown (hw _ (List.mem_of_getElem? (i := 49) rfl)) (hw _ (List.mem_of_getElem? (i := 50) rfl)) (notFace_of_selects (args := #[]) (mvT hZ (hw _ (List.mem_of_getElem? (i := 52) rfl)))) (hw _ (List.mem_of_getElem? (i := 52) rfl)) (hw _ (List.mem_of_getElem? (i := 51) rfl)) (by decide) (own_bk (rm_set1 l Z a0 hw b31 ii p5 x0 k0 zl own_z h49 n0 FF Vx0 ⟨by omega, by omega⟩ ⟨by omega, by omega⟩ gx0) hZ (hw _ (List.mem_of_getElem? (i := 53) rfl)) (hw _ (List.mem_of_getElem? (i := 3) rfl)) (by decide) (by decide)) e49 F51 (g := (mkF m 97 #[.val (.int p1), .val (.long q2), .second, .val (.long q3), .second, .val (.long q4), .second, .val (.int p5), .val (.int p6), .val (.int (1 : Int32)), .val (.long nn), .second, .val (.long ii), .second, .val (.long jj), .second, .val (.long kk), .second, .val (.ref b31), .unset, .unset, .unset, .unset, .unset] [(.int p5), (.long ii), (.ref b31)])) rfl (by rw [hml]; rfl) (lenOf pd_6 rfl) rfl (by show 2 * 0 + _ ≤ _; exact Nat.le_of_eq rfl) (hb hby at_97) (by decide) (by decide) (fun v50 T50 h50 L50 X50 e50 q50 => ?_)
      obtain ⟨rfl, M50, K50, P50_0⟩ := q50
      have N50 := Fr.app N49 M50
      refine own_go (fun t k => XS.aload X50.here hx rfl (hb hby at_100) rfl rfl  k) ?_
      show own_Run p e below Φ (T50.setTop (mkF m 102 #[.val (.int p1), .val (.long q2), .second, .val (.long q3), .second, .val (.long q4), .second, .val (.int p5), .val (.int p6), .val (.int (1 : Int32)), .val (.long nn), .second, .val (.long ii), .second, .val (.long jj), .second, .val (.long kk), .second, .val (.ref b31), .unset, .unset, .unset, .unset, .unset] [(.ref b31)]))
      refine own_go (fun t k => XS.lload X50.here hx rfl (hb hby at_102) rfl  k) ?_
      refine own_go (fun t k => XS.iload X50.here hx rfl (hb hby at_104) rfl  k) ?_
      have F52 : Fld Z h50 b31 "com/example/hueline/hueline/model/BigIntArray" "flat" "[I" (.ref x0) := (FF.keep K50 (ninS ne_b31_x0 nin0))
      have F54 : Exa Z h50 b31 "com/example/hueline/hueline/model/BigIntArray" := (F51.keep K50)
      refine own_callV X50 hx hZ (y := (⟨"com/example/hueline/hueline/model/BigIntArray", "set", "(JI)V"⟩ : MethodName)) (z := (⟨"com/example/hueline/hueline/model/BigIntArray", "set", "(JI)V"⟩ : MethodName)) (W := 0) (a := b31) (argsL := [(.long jj), (.int p6)]) (rest := []) hown (hw _ (List.mem_of_getElem? (i := 49) rfl)) (hw _ (List.mem_of_getElem? (i := 50) rfl)) (notFace_of_selects (args := #[]) (mvT hZ (hw _ (List.mem_of_getElem? (i := 52) rfl)))) (hw _ (List.mem_of_getElem? (i := 52) rfl)) (hw _ (List.mem_of_getElem? (i := 51) rfl)) (by decide) (own_bk (rm_set1 l Z a0 hw b31 jj p6 x0 k0 zl (own_upd own_z ii p5) h50 n0 F52 P50_0 ⟨by omega, by omega⟩ ⟨by omega, by omega⟩ gx0) hZ (hw _ (List.mem_of_getElem? (i := 53) rfl)) (hw _ (List.mem_of_getElem? (i := 3) rfl)) (by decide) (by decide)) e50 F54 (g := (mkF m 106 #[.val (.int p1), .val (.long q2), .second, .val (.long q3), .second, .val (.long q4), .second, .val (.int p5), .val (.int p6), .val (.int (1 : Int32)), .val (.long nn), .second, .val (.long ii), .second, .val (.long jj), .second, .val (.long kk), .second, .val (.ref b31), .unset, .unset, .unset, .unset, .unset] [(.int p6), (.long jj), (.ref b31)])) rfl (by rw [hml]; rfl) (lenOf pd_6 rfl) rfl (by show 2 * 0 + _ ≤ _; exact Nat.le_of_eq rfl) (hb hby at_106) (by decide) (by decide) (fun v53 T53 h53 L53 X53 e53 q53 => ?_)
      obtain ⟨rfl, M53, K53, P53_0⟩ := q53
      have N53 := Fr.app N50 M53
      refine own_go (fun t k => XS.aload X53.here hx rfl (hb hby at_109) rfl rfl  k) ?_
      refine own_go (fun t k => XS.lload X53.here hx rfl (hb hby at_111) rfl  k) ?_
      show own_Run p e below Φ (T53.setTop (mkF m 113 #[.val (.int p1), .val (.long q2), .second, .val (.long q3), .second, .val (.long q4), .second, .val (.int p5), .val (.int p6), .val (.int (1 : Int32)), .val (.long nn), .second, .val (.long ii), .second, .val (.long jj), .second, .val (.long kk), .second, .val (.ref b31), .unset, .unset, .unset, .unset, .unset] [(.long ii), (.ref b31)]))
      have F55 : Fld Z h53 b31 "com/example/hueline/hueline/model/BigIntArray" "flat" "[I" (.ref x0) := (F52.keep K53 (ninS ne_b31_x0 nin0))
      have F57 : Exa Z h53 b31 "com/example/hueline/hueline/model/BigIntArray" := (F54.keep K53)
      refine own_callV X53 hx hZ (y := (⟨"com/example/hueline/hueline/model/BigIntArray", "get", "(J)I"⟩ : MethodName)) (z := (⟨"com/example/hueline/hueline/model/BigIntArray", "get", "(J)I"⟩ : MethodName)) (W := 0) (a := b31) (argsL := [(.long ii)]) (rest := []) hown (hw _ (List.mem_of_getElem? (i := 54) rfl)) (hw _ (List.mem_of_getElem? (i := 55) rfl)) (notFace_of_selects (args := #[]) (mvT hZ (hw _ (List.mem_of_getElem? (i := 57) rfl)))) (hw _ (List.mem_of_getElem? (i := 57) rfl)) (hw _ (List.mem_of_getElem? (i := 56) rfl)) (by decide) (own_bk (rm_get1 l Z a0 hw b31 ii x0 k0 zl (own_upd (own_upd own_z ii p5) jj p6) h53 n0 F55 P53_0 ⟨by omega, by omega⟩ ⟨by omega, by omega⟩) hZ (hw _ (List.mem_of_getElem? (i := 58) rfl)) (hw _ (List.mem_of_getElem? (i := 3) rfl)) (by decide) (by decide)) e53 F57 (g := (mkF m 113 #[.val (.int p1), .val (.long q2), .second, .val (.long q3), .second, .val (.long q4), .second, .val (.int p5), .val (.int p6), .val (.int (1 : Int32)), .val (.long nn), .second, .val (.long ii), .second, .val (.long jj), .second, .val (.long kk), .second, .val (.ref b31), .unset, .unset, .unset, .unset, .unset] [(.long ii), (.ref b31)])) rfl (by rw [hml]; rfl) (lenOf pd_3 rfl) rfl (by show 2 * 0 + _ ≤ _; exact Nat.le_of_eq rfl) (hb hby at_113) (by decide) (by decide) (fun v56 T56 h56 L56 X56 e56 q56 => ?_)
      obtain ⟨rfl, M56, s56⟩ := q56
      replace e56 : T56.heap = h53 := e56.trans s56
      have N56 := Fr.app N53 M56
      refine own_go (fun t k => XS.istore X56.here hx rfl (hb hby at_116) rfl (l' := #[.val (.int p1), .val (.long q2), .second, .val (.long q3), .second, .val (.long q4), .second, .val (.int p5), .val (.int p6), .val (.int (1 : Int32)), .val (.long nn), .second, .val (.long ii), .second, .val (.long jj), .second, .val (.long kk), .second, .val (.ref b31), .val (.int ((own_upd (own_upd own_z ii p5) jj p6) ii)), .unset, .unset, .unset, .unset]) rfl k) ?_
      refine own_go (fun t k => XS.aload X56.here hx rfl (hb hby at_118) rfl rfl  k) ?_
      refine own_go (fun t k => XS.lload X56.here hx rfl (hb hby at_120) rfl  k) ?_
      refine own_callV X56 hx hZ (y := (⟨"com/example/hueline/hueline/model/BigIntArray", "get", "(J)I"⟩ : MethodName)) (z := (⟨"com/example/hueline/hueline/model/BigIntArray", "get", "(J)I"⟩ : MethodName)) (W := 0) (a := b31) (argsL := [(.long jj)]) (rest := []) hown (hw _ (List.mem_of_getElem? (i := 54) rfl)) (hw _ (List.mem_of_getElem? (i := 55) rfl)) (notFace_of_selects (args := #[]) (mvT hZ (hw _ (List.mem_of_getElem? (i := 57) rfl)))) (hw _ (List.mem_of_getElem? (i := 57) rfl)) (hw _ (List.mem_of_getElem? (i := 56) rfl)) (by decide) (own_bk (rm_get1 l Z a0 hw b31 jj x0 k0 zl (own_upd (own_upd own_z ii p5) jj p6) h53 n0 F55 P53_0 ⟨by omega, by omega⟩ ⟨by omega, by omega⟩) hZ (hw _ (List.mem_of_getElem? (i := 58) rfl)) (hw _ (List.mem_of_getElem? (i := 3) rfl)) (by decide) (by decide)) e56 F57 (g := (mkF m 122 #[.val (.int p1), .val (.long q2), .second, .val (.long q3), .second, .val (.long q4), .second, .val (.int p5), .val (.int p6), .val (.int (1 : Int32)), .val (.long nn), .second, .val (.long ii), .second, .val (.long jj), .second, .val (.long kk), .second, .val (.ref b31), .val (.int ((own_upd (own_upd own_z ii p5) jj p6) ii)), .unset, .unset, .unset, .unset] [(.long jj), (.ref b31)])) rfl (by rw [hml]; rfl) (lenOf pd_3 rfl) rfl (by show 2 * 0 + _ ≤ _; exact Nat.le_of_eq rfl) (hb hby at_122) (by decide) (by decide) (fun v58 T58 h58 L58 X58 e58 q58 => ?_)
      obtain ⟨rfl, M58, s58⟩ := q58
      replace e58 : T58.heap = h53 := e58.trans s58
      have N58 := Fr.app N56 M58
      show own_Run p e below Φ (T58.setTop (mkF m 125 #[.val (.int p1), .val (.long q2), .second, .val (.long q3), .second, .val (.long q4), .second, .val (.int p5), .val (.int p6), .val (.int (1 : Int32)), .val (.long nn), .second, .val (.long ii), .second, .val (.long jj), .second, .val (.long kk), .second, .val (.ref b31), .val (.int ((own_upd (own_upd own_z ii p5) jj p6) ii)), .unset, .unset, .unset, .unset] [(.int ((own_upd (own_upd own_z ii p5) jj p6) jj))]))
      refine own_go (fun t k => XS.istore X58.here hx rfl (hb hby at_125) rfl (l' := #[.val (.int p1), .val (.long q2), .second, .val (.long q3), .second, .val (.long q4), .second, .val (.int p5), .val (.int p6), .val (.int (1 : Int32)), .val (.long nn), .second, .val (.long ii), .second, .val (.long jj), .second, .val (.long kk), .second, .val (.ref b31), .val (.int ((own_upd (own_upd own_z ii p5) jj p6) ii)), .val (.int ((own_upd (own_upd own_z ii p5) jj p6) jj)), .unset, .unset, .unset]) rfl k) ?_
      refine own_go (fun t k => XS.aload X58.here hx rfl (hb hby at_127) rfl rfl  k) ?_
      refine own_go (fun t k => XS.lload X58.here hx rfl (hb hby at_129) rfl  k) ?_
      refine own_callV X58 hx hZ (y := (⟨"com/example/hueline/hueline/model/BigIntArray", "get", "(J)I"⟩ : MethodName)) (z := (⟨"com/example/hueline/hueline/model/BigIntArray", "get", "(J)I"⟩ : MethodName)) (W := 0) (a := b31) (argsL := [(.long kk)]) (rest := []) hown (hw _ (List.mem_of_getElem? (i := 54) rfl)) (hw _ (List.mem_of_getElem? (i := 55) rfl)) (notFace_of_selects (args := #[]) (mvT hZ (hw _ (List.mem_of_getElem? (i := 57) rfl)))) (hw _ (List.mem_of_getElem? (i := 57) rfl)) (hw _ (List.mem_of_getElem? (i := 56) rfl)) (by decide) (own_bk (rm_get1 l Z a0 hw b31 kk x0 k0 zl (own_upd (own_upd own_z ii p5) jj p6) h53 n0 F55 P53_0 ⟨by omega, by omega⟩ ⟨by omega, by omega⟩) hZ (hw _ (List.mem_of_getElem? (i := 58) rfl)) (hw _ (List.mem_of_getElem? (i := 3) rfl)) (by decide) (by decide)) e58 F57 (g := (mkF m 131 #[.val (.int p1), .val (.long q2), .second, .val (.long q3), .second, .val (.long q4), .second, .val (.int p5), .val (.int p6), .val (.int (1 : Int32)), .val (.long nn), .second, .val (.long ii), .second, .val (.long jj), .second, .val (.long kk), .second, .val (.ref b31), .val (.int ((own_upd (own_upd own_z ii p5) jj p6) ii)), .val (.int ((own_upd (own_upd own_z ii p5) jj p6) jj)), .unset, .unset, .unset] [(.long kk), (.ref b31)])) rfl (by rw [hml]; rfl) (lenOf pd_3 rfl) rfl (by show 2 * 0 + _ ≤ _; exact Nat.le_of_eq rfl) (hb hby at_131) (by decide) (by decide) (fun v59 T59 h59 L59 X59 e59 q59 => ?_)
      obtain ⟨rfl, M59, s59⟩ := q59
      replace e59 : T59.heap = h53 := e59.trans s59
      have N59 := Fr.app N58 M59
      refine own_go (fun t k => XS.istore X59.here hx rfl (hb hby at_134) rfl (l' := #[.val (.int p1), .val (.long q2), .second, .val (.long q3), .second, .val (.long q4), .second, .val (.int p5), .val (.int p6), .val (.int (1 : Int32)), .val (.long nn), .second, .val (.long ii), .second, .val (.long jj), .second, .val (.long kk), .second, .val (.ref b31), .val (.int ((own_upd (own_upd own_z ii p5) jj p6) ii)), .val (.int ((own_upd (own_upd own_z ii p5) jj p6) jj)), .val (.int ((own_upd (own_upd own_z ii p5) jj p6) kk)), .unset, .unset]) rfl k) ?_
      show own_Run p e below Φ (T59.setTop (mkF m 136 #[.val (.int p1), .val (.long q2), .second, .val (.long q3), .second, .val (.long q4), .second, .val (.int p5), .val (.int p6), .val (.int (1 : Int32)), .val (.long nn), .second, .val (.long ii), .second, .val (.long jj), .second, .val (.long kk), .second, .val (.ref b31), .val (.int ((own_upd (own_upd own_z ii p5) jj p6) ii)), .val (.int ((own_upd (own_upd own_z ii p5) jj p6) jj)), .val (.int ((own_upd (own_upd own_z ii p5) jj p6) kk)), .unset, .unset] []))
      refine own_go (fun t k => XS.lload X59.here hx rfl (hb hby at_136) rfl  k) ?_
      refine own_go (fun t k => XS.lload X59.here hx rfl (hb hby at_138) rfl  k) ?_
      refine own_go (fun t k => XS.lcmp X59.here hx rfl (hb hby at_140) rfl k) ?_
      by_cases hc141 : (lcmpW ii jj) = (0 : Int32)
      · refine own_go (fun t k => XS.ifNo X59.here hx rfl (hb hby at_141) rfl ((if0 _ _).trans (teq hc141).2) k) ?_
        refine own_go (fun t k => XS.iload X59.here hx rfl (hb hby at_144) rfl  k) ?_
        show own_Run p e below Φ (T59.setTop (mkF m 146 #[.val (.int p1), .val (.long q2), .second, .val (.long q3), .second, .val (.long q4), .second, .val (.int p5), .val (.int p6), .val (.int (1 : Int32)), .val (.long nn), .second, .val (.long ii), .second, .val (.long jj), .second, .val (.long kk), .second, .val (.ref b31), .val (.int ((own_upd (own_upd own_z ii p5) jj p6) ii)), .val (.int ((own_upd (own_upd own_z ii p5) jj p6) jj)), .val (.int ((own_upd (own_upd own_z ii p5) jj p6) kk)), .unset, .unset] [(.int p6)]))
        refine own_go (fun t k => XS.goto X59.here hx rfl (pc0 := 146) (pc' := 151) rfl (hb hby at_146) (by decide) (by decide) k) ?_
        refine own_go (fun t k => XS.istore X59.here hx rfl (hb hby at_151) rfl (l' := #[.val (.int p1), .val (.long q2), .second, .val (.long q3), .second, .val (.long q4), .second, .val (.int p5), .val (.int p6), .val (.int (1 : Int32)), .val (.long nn), .second, .val (.long ii), .second, .val (.long jj), .second, .val (.long kk), .second, .val (.ref b31), .val (.int ((own_upd (own_upd own_z ii p5) jj p6) ii)), .val (.int ((own_upd (own_upd own_z ii p5) jj p6) jj)), .val (.int ((own_upd (own_upd own_z ii p5) jj p6) kk)), .val (.int p6), .unset]) rfl k) ?_
        refine own_go (fun t k => XS.lload X59.here hx rfl (hb hby at_153) rfl  k) ?_
        refine own_go (fun t k => XS.lload X59.here hx rfl (hb hby at_155) rfl  k) ?_
        refine own_go (fun t k => XS.lcmp X59.here hx rfl (hb hby at_157) rfl k) ?_
        show own_Run p e below Φ (T59.setTop (mkF m 158 #[.val (.int p1), .val (.long q2), .second, .val (.long q3), .second, .val (.long q4), .second, .val (.int p5), .val (.int p6), .val (.int (1 : Int32)), .val (.long nn), .second, .val (.long ii), .second, .val (.long jj), .second, .val (.long kk), .second, .val (.ref b31), .val (.int ((own_upd (own_upd own_z ii p5) jj p6) ii)), .val (.int ((own_upd (own_upd own_z ii p5) jj p6) jj)), .val (.int ((own_upd (own_upd own_z ii p5) jj p6) kk)), .val (.int p6), .unset] [(.int (lcmpW kk jj))]))
        by_cases hc158 : (lcmpW kk jj) = (0 : Int32)
        · refine own_go (fun t k => XS.ifNo X59.here hx rfl (hb hby at_158) rfl ((if0 _ _).trans (teq hc158).2) k) ?_
          refine own_go (fun t k => XS.iload X59.here hx rfl (hb hby at_161) rfl  k) ?_
          refine own_go (fun t k => XS.istore X59.here hx rfl (hb hby at_163) rfl (l' := #[.val (.int p1), .val (.long q2), .second, .val (.long q3), .second, .val (.long q4), .second, .val (.int p5), .val (.int p6), .val (.int (1 : Int32)), .val (.long nn), .second, .val (.long ii), .second, .val (.long jj), .second, .val (.long kk), .second, .val (.ref b31), .val (.int ((own_upd (own_upd own_z ii p5) jj p6) ii)), .val (.int ((own_upd (own_upd own_z ii p5) jj p6) jj)), .val (.int ((own_upd (own_upd own_z ii p5) jj p6) kk)), .val (.int p6), .val (.int p6)]) rfl k) ?_
          refine own_go (fun t k => XS.goto X59.here hx rfl (pc0 := 165) (pc' := 186) rfl (hb hby at_165) (by decide) (by decide) k) ?_
          refine own_go (fun t k => XS.iload X59.here hx rfl (hb hby at_186) rfl  k) ?_
          show own_Run p e below Φ (T59.setTop (mkF m 188 #[.val (.int p1), .val (.long q2), .second, .val (.long q3), .second, .val (.long q4), .second, .val (.int p5), .val (.int p6), .val (.int (1 : Int32)), .val (.long nn), .second, .val (.long ii), .second, .val (.long jj), .second, .val (.long kk), .second, .val (.ref b31), .val (.int ((own_upd (own_upd own_z ii p5) jj p6) ii)), .val (.int ((own_upd (own_upd own_z ii p5) jj p6) jj)), .val (.int ((own_upd (own_upd own_z ii p5) jj p6) kk)), .val (.int p6), .val (.int p6)] [(.int ((own_upd (own_upd own_z ii p5) jj p6) ii))]))
          refine own_go (fun t k => XS.iload X59.here hx rfl (hb hby at_188) rfl  k) ?_
          have hc190 : ((own_upd (own_upd own_z ii p5) jj p6) ii) = p6 := (own_u1 hc141)
          refine own_go (fun t k => XS.icmpNo X59.here hx rfl (hb hby at_190) rfl (teq hc190).2 k) ?_
          refine own_go (fun t k => XS.iload X59.here hx rfl (hb hby at_193) rfl  k) ?_
          refine own_go (fun t k => XS.iload X59.here hx rfl (hb hby at_195) rfl  k) ?_
          have hc197 : ((own_upd (own_upd own_z ii p5) jj p6) jj) = p6 := own_u1'
          refine own_go (fun t k => XS.icmpNo X59.here hx rfl (hb hby at_197) rfl (teq hc197).2 k) ?_
          show own_Run p e below Φ (T59.setTop (mkF m 200 #[.val (.int p1), .val (.long q2), .second, .val (.long q3), .second, .val (.long q4), .second, .val (.int p5), .val (.int p6), .val (.int (1 : Int32)), .val (.long nn), .second, .val (.long ii), .second, .val (.long jj), .second, .val (.long kk), .second, .val (.ref b31), .val (.int ((own_upd (own_upd own_z ii p5) jj p6) ii)), .val (.int ((own_upd (own_upd own_z ii p5) jj p6) jj)), .val (.int ((own_upd (own_upd own_z ii p5) jj p6) kk)), .val (.int p6), .val (.int p6)] []))
          refine own_go (fun t k => XS.iload X59.here hx rfl (hb hby at_200) rfl  k) ?_
          refine own_go (fun t k => XS.iload X59.here hx rfl (hb hby at_202) rfl  k) ?_
          have hc204 : ((own_upd (own_upd own_z ii p5) jj p6) kk) = p6 := (own_u1 hc158)
          refine own_go (fun t k => XS.icmpNo X59.here hx rfl (hb hby at_204) rfl (teq hc204).2 k) ?_
          refine own_go (fun t k => XS.aload X59.here hx rfl (hb hby at_207) rfl rfl  k) ?_
          have F60 : Fld Z h53 b31 "com/example/hueline/hueline/model/BigIntArray" "length" "J" (.long nn) := ((P49_1.keep K50 (ninS ne_b31_x0 nin0)).keep K53 (ninS ne_b31_x0 nin0))
          refine own_callV X59 hx hZ (y := (⟨"com/example/hueline/hueline/model/BigIntArray", "length", "()J"⟩ : MethodName)) (z := (⟨"com/example/hueline/hueline/model/BigIntArray", "length", "()J"⟩ : MethodName)) (W := 0) (a := b31) (argsL := []) (rest := []) hown (hw _ (List.mem_of_getElem? (i := 59) rfl)) (hw _ (List.mem_of_getElem? (i := 60) rfl)) (notFace_of_selects (args := #[]) (mvT hZ (hw _ (List.mem_of_getElem? (i := 62) rfl)))) (hw _ (List.mem_of_getElem? (i := 62) rfl)) (hw _ (List.mem_of_getElem? (i := 61) rfl)) (by decide) (own_bk (rm_ln l Z a0 hw b31 nn h53 n0 F60) hZ (hw _ (List.mem_of_getElem? (i := 63) rfl)) (hw _ (List.mem_of_getElem? (i := 3) rfl)) (by decide) (by decide)) e59 F57 (g := (mkF m 209 #[.val (.int p1), .val (.long q2), .second, .val (.long q3), .second, .val (.long q4), .second, .val (.int p5), .val (.int p6), .val (.int (1 : Int32)), .val (.long nn), .second, .val (.long ii), .second, .val (.long jj), .second, .val (.long kk), .second, .val (.ref b31), .val (.int ((own_upd (own_upd own_z ii p5) jj p6) ii)), .val (.int ((own_upd (own_upd own_z ii p5) jj p6) jj)), .val (.int ((own_upd (own_upd own_z ii p5) jj p6) kk)), .val (.int p6), .val (.int p6)] [(.ref b31)])) rfl (by rw [hml]; rfl) (lenOf pd_7 rfl) rfl (by show 2 * 0 + _ ≤ _; exact Nat.le_of_eq rfl) (hb hby at_209) (by decide) (by decide) (fun v61 T61 h61 L61 X61 e61 q61 => ?_)
          obtain ⟨rfl, M61, s61⟩ := q61
          replace e61 : T61.heap = h53 := e61.trans s61
          have N61 := Fr.app N59 M61
          show own_Run p e below Φ (T61.setTop (mkF m 212 #[.val (.int p1), .val (.long q2), .second, .val (.long q3), .second, .val (.long q4), .second, .val (.int p5), .val (.int p6), .val (.int (1 : Int32)), .val (.long nn), .second, .val (.long ii), .second, .val (.long jj), .second, .val (.long kk), .second, .val (.ref b31), .val (.int ((own_upd (own_upd own_z ii p5) jj p6) ii)), .val (.int ((own_upd (own_upd own_z ii p5) jj p6) jj)), .val (.int ((own_upd (own_upd own_z ii p5) jj p6) kk)), .val (.int p6), .val (.int p6)] [(.long nn)]))
          refine own_go (fun t k => XS.lload X61.here hx rfl (hb hby at_212) rfl  k) ?_
          refine own_go (fun t k => XS.lcmp X61.here hx rfl (hb hby at_214) rfl k) ?_
          have hc215 : (lcmpW nn nn) = (0 : Int32) := ((lw_eq _ _).mpr rfl)
          refine own_go (fun t k => XS.ifNo X61.here hx rfl (hb hby at_215) rfl ((if0 _ _).trans (teq hc215).2) k) ?_
          refine own_go (fun t k => XS.iconst X61.here hx rfl (hb hby at_218) k) ?_
          refine own_go (fun t k => XS.goto X61.here hx rfl (pc0 := 219) (pc' := 223) rfl (hb hby at_219) (by decide) (by decide) k) ?_
          show own_Run p e below Φ (T61.setTop (mkF m 223 #[.val (.int p1), .val (.long q2), .second, .val (.long q3), .second, .val (.long q4), .second, .val (.int p5), .val (.int p6), .val (.int (1 : Int32)), .val (.long nn), .second, .val (.long ii), .second, .val (.long jj), .second, .val (.long kk), .second, .val (.ref b31), .val (.int ((own_upd (own_upd own_z ii p5) jj p6) ii)), .val (.int ((own_upd (own_upd own_z ii p5) jj p6) jj)), .val (.int ((own_upd (own_upd own_z ii p5) jj p6) kk)), .val (.int p6), .val (.int p6)] [(.int (1 : Int32))]))
          subst hΦ
          exact own_retN X61 hx (t := .boolean) Bd.returns (by simp) hlk (hb hby at_223) e61 ⟨rfl, N61⟩ (by decide) (by decide)
        · refine own_go (fun t k => XS.ifYes X59.here hx rfl (pc0 := 158) (pc' := 168) rfl (hb hby at_158) rfl ((if0 _ _).trans (feq hc158).2) (by decide) (by decide) k) ?_
          refine own_go (fun t k => XS.lload X59.here hx rfl (hb hby at_168) rfl  k) ?_
          refine own_go (fun t k => XS.lload X59.here hx rfl (hb hby at_170) rfl  k) ?_
          refine own_go (fun t k => XS.lcmp X59.here hx rfl (hb hby at_172) rfl k) ?_
          by_cases hc173 : (lcmpW kk ii) = (0 : Int32)
          · refine own_go (fun t k => XS.ifNo X59.here hx rfl (hb hby at_173) rfl ((if0 _ _).trans (teq hc173).2) k) ?_
            show own_Run p e below Φ (T59.setTop (mkF m 176 #[.val (.int p1), .val (.long q2), .second, .val (.long q3), .second, .val (.long q4), .second, .val (.int p5), .val (.int p6), .val (.int (1 : Int32)), .val (.long nn), .second, .val (.long ii), .second, .val (.long jj), .second, .val (.long kk), .second, .val (.ref b31), .val (.int ((own_upd (own_upd own_z ii p5) jj p6) ii)), .val (.int ((own_upd (own_upd own_z ii p5) jj p6) jj)), .val (.int ((own_upd (own_upd own_z ii p5) jj p6) kk)), .val (.int p6), .unset] []))
            refine own_go (fun t k => XS.iload X59.here hx rfl (hb hby at_176) rfl  k) ?_
            refine own_go (fun t k => XS.istore X59.here hx rfl (hb hby at_178) rfl (l' := #[.val (.int p1), .val (.long q2), .second, .val (.long q3), .second, .val (.long q4), .second, .val (.int p5), .val (.int p6), .val (.int (1 : Int32)), .val (.long nn), .second, .val (.long ii), .second, .val (.long jj), .second, .val (.long kk), .second, .val (.ref b31), .val (.int ((own_upd (own_upd own_z ii p5) jj p6) ii)), .val (.int ((own_upd (own_upd own_z ii p5) jj p6) jj)), .val (.int ((own_upd (own_upd own_z ii p5) jj p6) kk)), .val (.int p6), .val (.int p5)]) rfl k) ?_
            refine own_go (fun t k => XS.goto X59.here hx rfl (pc0 := 180) (pc' := 186) rfl (hb hby at_180) (by decide) (by decide) k) ?_
            refine own_go (fun t k => XS.iload X59.here hx rfl (hb hby at_186) rfl  k) ?_
            refine own_go (fun t k => XS.iload X59.here hx rfl (hb hby at_188) rfl  k) ?_
            show own_Run p e below Φ (T59.setTop (mkF m 190 #[.val (.int p1), .val (.long q2), .second, .val (.long q3), .second, .val (.long q4), .second, .val (.int p5), .val (.int p6), .val (.int (1 : Int32)), .val (.long nn), .second, .val (.long ii), .second, .val (.long jj), .second, .val (.long kk), .second, .val (.ref b31), .val (.int ((own_upd (own_upd own_z ii p5) jj p6) ii)), .val (.int ((own_upd (own_upd own_z ii p5) jj p6) jj)), .val (.int ((own_upd (own_upd own_z ii p5) jj p6) kk)), .val (.int p6), .val (.int p5)] [(.int p6), (.int ((own_upd (own_upd own_z ii p5) jj p6) ii))]))
            have hc190 : ((own_upd (own_upd own_z ii p5) jj p6) ii) = p6 := (own_u1 hc141)
            refine own_go (fun t k => XS.icmpNo X59.here hx rfl (hb hby at_190) rfl (teq hc190).2 k) ?_
            refine own_go (fun t k => XS.iload X59.here hx rfl (hb hby at_193) rfl  k) ?_
            refine own_go (fun t k => XS.iload X59.here hx rfl (hb hby at_195) rfl  k) ?_
            have hc197 : ((own_upd (own_upd own_z ii p5) jj p6) jj) = p6 := own_u1'
            refine own_go (fun t k => XS.icmpNo X59.here hx rfl (hb hby at_197) rfl (teq hc197).2 k) ?_
            refine own_go (fun t k => XS.iload X59.here hx rfl (hb hby at_200) rfl  k) ?_
            show own_Run p e below Φ (T59.setTop (mkF m 202 #[.val (.int p1), .val (.long q2), .second, .val (.long q3), .second, .val (.long q4), .second, .val (.int p5), .val (.int p6), .val (.int (1 : Int32)), .val (.long nn), .second, .val (.long ii), .second, .val (.long jj), .second, .val (.long kk), .second, .val (.ref b31), .val (.int ((own_upd (own_upd own_z ii p5) jj p6) ii)), .val (.int ((own_upd (own_upd own_z ii p5) jj p6) jj)), .val (.int ((own_upd (own_upd own_z ii p5) jj p6) kk)), .val (.int p6), .val (.int p5)] [(.int ((own_upd (own_upd own_z ii p5) jj p6) kk))]))
            refine own_go (fun t k => XS.iload X59.here hx rfl (hb hby at_202) rfl  k) ?_
            have hc204 : ((own_upd (own_upd own_z ii p5) jj p6) kk) = p5 := ((own_u2 hc158).trans (own_u1 hc173))
            refine own_go (fun t k => XS.icmpNo X59.here hx rfl (hb hby at_204) rfl (teq hc204).2 k) ?_
            refine own_go (fun t k => XS.aload X59.here hx rfl (hb hby at_207) rfl rfl  k) ?_
            have F62 : Fld Z h53 b31 "com/example/hueline/hueline/model/BigIntArray" "length" "J" (.long nn) := ((P49_1.keep K50 (ninS ne_b31_x0 nin0)).keep K53 (ninS ne_b31_x0 nin0))
            refine own_callV X59 hx hZ (y := (⟨"com/example/hueline/hueline/model/BigIntArray", "length", "()J"⟩ : MethodName)) (z := (⟨"com/example/hueline/hueline/model/BigIntArray", "length", "()J"⟩ : MethodName)) (W := 0) (a := b31) (argsL := []) (rest := []) hown (hw _ (List.mem_of_getElem? (i := 59) rfl)) (hw _ (List.mem_of_getElem? (i := 60) rfl)) (notFace_of_selects (args := #[]) (mvT hZ (hw _ (List.mem_of_getElem? (i := 62) rfl)))) (hw _ (List.mem_of_getElem? (i := 62) rfl)) (hw _ (List.mem_of_getElem? (i := 61) rfl)) (by decide) (own_bk (rm_ln l Z a0 hw b31 nn h53 n0 F62) hZ (hw _ (List.mem_of_getElem? (i := 63) rfl)) (hw _ (List.mem_of_getElem? (i := 3) rfl)) (by decide) (by decide)) e59 F57 (g := (mkF m 209 #[.val (.int p1), .val (.long q2), .second, .val (.long q3), .second, .val (.long q4), .second, .val (.int p5), .val (.int p6), .val (.int (1 : Int32)), .val (.long nn), .second, .val (.long ii), .second, .val (.long jj), .second, .val (.long kk), .second, .val (.ref b31), .val (.int ((own_upd (own_upd own_z ii p5) jj p6) ii)), .val (.int ((own_upd (own_upd own_z ii p5) jj p6) jj)), .val (.int ((own_upd (own_upd own_z ii p5) jj p6) kk)), .val (.int p6), .val (.int p5)] [(.ref b31)])) rfl (by rw [hml]; rfl) (lenOf pd_7 rfl) rfl (by show 2 * 0 + _ ≤ _; exact Nat.le_of_eq rfl) (hb hby at_209) (by decide) (by decide) (fun v63 T63 h63 L63 X63 e63 q63 => ?_)
            obtain ⟨rfl, M63, s63⟩ := q63
            replace e63 : T63.heap = h53 := e63.trans s63
            have N63 := Fr.app N59 M63
            refine own_go (fun t k => XS.lload X63.here hx rfl (hb hby at_212) rfl  k) ?_
            show own_Run p e below Φ (T63.setTop (mkF m 214 #[.val (.int p1), .val (.long q2), .second, .val (.long q3), .second, .val (.long q4), .second, .val (.int p5), .val (.int p6), .val (.int (1 : Int32)), .val (.long nn), .second, .val (.long ii), .second, .val (.long jj), .second, .val (.long kk), .second, .val (.ref b31), .val (.int ((own_upd (own_upd own_z ii p5) jj p6) ii)), .val (.int ((own_upd (own_upd own_z ii p5) jj p6) jj)), .val (.int ((own_upd (own_upd own_z ii p5) jj p6) kk)), .val (.int p6), .val (.int p5)] [(.long nn), (.long nn)]))
            refine own_go (fun t k => XS.lcmp X63.here hx rfl (hb hby at_214) rfl k) ?_
            have hc215 : (lcmpW nn nn) = (0 : Int32) := ((lw_eq _ _).mpr rfl)
            refine own_go (fun t k => XS.ifNo X63.here hx rfl (hb hby at_215) rfl ((if0 _ _).trans (teq hc215).2) k) ?_
            refine own_go (fun t k => XS.iconst X63.here hx rfl (hb hby at_218) k) ?_
            refine own_go (fun t k => XS.goto X63.here hx rfl (pc0 := 219) (pc' := 223) rfl (hb hby at_219) (by decide) (by decide) k) ?_
            subst hΦ
            exact own_retN X63 hx (t := .boolean) Bd.returns (by simp) hlk (hb hby at_223) e63 ⟨rfl, N63⟩ (by decide) (by decide)
          · refine own_go (fun t k => XS.ifYes X59.here hx rfl (pc0 := 173) (pc' := 183) rfl (hb hby at_173) rfl ((if0 _ _).trans (feq hc173).2) (by decide) (by decide) k) ?_
            show own_Run p e below Φ (T59.setTop (mkF m 183 #[.val (.int p1), .val (.long q2), .second, .val (.long q3), .second, .val (.long q4), .second, .val (.int p5), .val (.int p6), .val (.int (1 : Int32)), .val (.long nn), .second, .val (.long ii), .second, .val (.long jj), .second, .val (.long kk), .second, .val (.ref b31), .val (.int ((own_upd (own_upd own_z ii p5) jj p6) ii)), .val (.int ((own_upd (own_upd own_z ii p5) jj p6) jj)), .val (.int ((own_upd (own_upd own_z ii p5) jj p6) kk)), .val (.int p6), .unset] []))
            refine own_go (fun t k => XS.iconst X59.here hx rfl (hb hby at_183) k) ?_
            refine own_go (fun t k => XS.istore X59.here hx rfl (hb hby at_184) rfl (l' := #[.val (.int p1), .val (.long q2), .second, .val (.long q3), .second, .val (.long q4), .second, .val (.int p5), .val (.int p6), .val (.int (1 : Int32)), .val (.long nn), .second, .val (.long ii), .second, .val (.long jj), .second, .val (.long kk), .second, .val (.ref b31), .val (.int ((own_upd (own_upd own_z ii p5) jj p6) ii)), .val (.int ((own_upd (own_upd own_z ii p5) jj p6) jj)), .val (.int ((own_upd (own_upd own_z ii p5) jj p6) kk)), .val (.int p6), .val (.int (0 : Int32))]) rfl k) ?_
            refine own_go (fun t k => XS.iload X59.here hx rfl (hb hby at_186) rfl  k) ?_
            refine own_go (fun t k => XS.iload X59.here hx rfl (hb hby at_188) rfl  k) ?_
            have hc190 : ((own_upd (own_upd own_z ii p5) jj p6) ii) = p6 := (own_u1 hc141)
            refine own_go (fun t k => XS.icmpNo X59.here hx rfl (hb hby at_190) rfl (teq hc190).2 k) ?_
            show own_Run p e below Φ (T59.setTop (mkF m 193 #[.val (.int p1), .val (.long q2), .second, .val (.long q3), .second, .val (.long q4), .second, .val (.int p5), .val (.int p6), .val (.int (1 : Int32)), .val (.long nn), .second, .val (.long ii), .second, .val (.long jj), .second, .val (.long kk), .second, .val (.ref b31), .val (.int ((own_upd (own_upd own_z ii p5) jj p6) ii)), .val (.int ((own_upd (own_upd own_z ii p5) jj p6) jj)), .val (.int ((own_upd (own_upd own_z ii p5) jj p6) kk)), .val (.int p6), .val (.int (0 : Int32))] []))
            refine own_go (fun t k => XS.iload X59.here hx rfl (hb hby at_193) rfl  k) ?_
            refine own_go (fun t k => XS.iload X59.here hx rfl (hb hby at_195) rfl  k) ?_
            have hc197 : ((own_upd (own_upd own_z ii p5) jj p6) jj) = p6 := own_u1'
            refine own_go (fun t k => XS.icmpNo X59.here hx rfl (hb hby at_197) rfl (teq hc197).2 k) ?_
            refine own_go (fun t k => XS.iload X59.here hx rfl (hb hby at_200) rfl  k) ?_
            refine own_go (fun t k => XS.iload X59.here hx rfl (hb hby at_202) rfl  k) ?_
            show own_Run p e below Φ (T59.setTop (mkF m 204 #[.val (.int p1), .val (.long q2), .second, .val (.long q3), .second, .val (.long q4), .second, .val (.int p5), .val (.int p6), .val (.int (1 : Int32)), .val (.long nn), .second, .val (.long ii), .second, .val (.long jj), .second, .val (.long kk), .second, .val (.ref b31), .val (.int ((own_upd (own_upd own_z ii p5) jj p6) ii)), .val (.int ((own_upd (own_upd own_z ii p5) jj p6) jj)), .val (.int ((own_upd (own_upd own_z ii p5) jj p6) kk)), .val (.int p6), .val (.int (0 : Int32))] [(.int (0 : Int32)), (.int ((own_upd (own_upd own_z ii p5) jj p6) kk))]))
            have hc204 : ((own_upd (own_upd own_z ii p5) jj p6) kk) = (0 : Int32) := ((own_u2 hc158).trans (own_u2 hc173))
            refine own_go (fun t k => XS.icmpNo X59.here hx rfl (hb hby at_204) rfl (teq hc204).2 k) ?_
            refine own_go (fun t k => XS.aload X59.here hx rfl (hb hby at_207) rfl rfl  k) ?_
            have F64 : Fld Z h53 b31 "com/example/hueline/hueline/model/BigIntArray" "length" "J" (.long nn) := ((P49_1.keep K50 (ninS ne_b31_x0 nin0)).keep K53 (ninS ne_b31_x0 nin0))
            refine own_callV X59 hx hZ (y := (⟨"com/example/hueline/hueline/model/BigIntArray", "length", "()J"⟩ : MethodName)) (z := (⟨"com/example/hueline/hueline/model/BigIntArray", "length", "()J"⟩ : MethodName)) (W := 0) (a := b31) (argsL := []) (rest := []) hown (hw _ (List.mem_of_getElem? (i := 59) rfl)) (hw _ (List.mem_of_getElem? (i := 60) rfl)) (notFace_of_selects (args := #[]) (mvT hZ (hw _ (List.mem_of_getElem? (i := 62) rfl)))) (hw _ (List.mem_of_getElem? (i := 62) rfl)) (hw _ (List.mem_of_getElem? (i := 61) rfl)) (by decide) (own_bk (rm_ln l Z a0 hw b31 nn h53 n0 F64) hZ (hw _ (List.mem_of_getElem? (i := 63) rfl)) (hw _ (List.mem_of_getElem? (i := 3) rfl)) (by decide) (by decide)) e59 F57 (g := (mkF m 209 #[.val (.int p1), .val (.long q2), .second, .val (.long q3), .second, .val (.long q4), .second, .val (.int p5), .val (.int p6), .val (.int (1 : Int32)), .val (.long nn), .second, .val (.long ii), .second, .val (.long jj), .second, .val (.long kk), .second, .val (.ref b31), .val (.int ((own_upd (own_upd own_z ii p5) jj p6) ii)), .val (.int ((own_upd (own_upd own_z ii p5) jj p6) jj)), .val (.int ((own_upd (own_upd own_z ii p5) jj p6) kk)), .val (.int p6), .val (.int (0 : Int32))] [(.ref b31)])) rfl (by rw [hml]; rfl) (lenOf pd_7 rfl) rfl (by show 2 * 0 + _ ≤ _; exact Nat.le_of_eq rfl) (hb hby at_209) (by decide) (by decide) (fun v65 T65 h65 L65 X65 e65 q65 => ?_)
            obtain ⟨rfl, M65, s65⟩ := q65
            replace e65 : T65.heap = h53 := e65.trans s65
            have N65 := Fr.app N59 M65
            refine own_go (fun t k => XS.lload X65.here hx rfl (hb hby at_212) rfl  k) ?_
            refine own_go (fun t k => XS.lcmp X65.here hx rfl (hb hby at_214) rfl k) ?_
            show own_Run p e below Φ (T65.setTop (mkF m 215 #[.val (.int p1), .val (.long q2), .second, .val (.long q3), .second, .val (.long q4), .second, .val (.int p5), .val (.int p6), .val (.int (1 : Int32)), .val (.long nn), .second, .val (.long ii), .second, .val (.long jj), .second, .val (.long kk), .second, .val (.ref b31), .val (.int ((own_upd (own_upd own_z ii p5) jj p6) ii)), .val (.int ((own_upd (own_upd own_z ii p5) jj p6) jj)), .val (.int ((own_upd (own_upd own_z ii p5) jj p6) kk)), .val (.int p6), .val (.int (0 : Int32))] [(.int (lcmpW nn nn))]))
            have hc215 : (lcmpW nn nn) = (0 : Int32) := ((lw_eq _ _).mpr rfl)
            refine own_go (fun t k => XS.ifNo X65.here hx rfl (hb hby at_215) rfl ((if0 _ _).trans (teq hc215).2) k) ?_
            refine own_go (fun t k => XS.iconst X65.here hx rfl (hb hby at_218) k) ?_
            refine own_go (fun t k => XS.goto X65.here hx rfl (pc0 := 219) (pc' := 223) rfl (hb hby at_219) (by decide) (by decide) k) ?_
            subst hΦ
            exact own_retN X65 hx (t := .boolean) Bd.returns (by simp) hlk (hb hby at_223) e65 ⟨rfl, N65⟩ (by decide) (by decide)
      · refine own_go (fun t k => XS.ifYes X59.here hx rfl (pc0 := 141) (pc' := 149) rfl (hb hby at_141) rfl ((if0 _ _).trans (feq hc141).2) (by decide) (by decide) k) ?_
        refine own_go (fun t k => XS.iload X59.here hx rfl (hb hby at_149) rfl  k) ?_
        show own_Run p e below Φ (T59.setTop (mkF m 151 #[.val (.int p1), .val (.long q2), .second, .val (.long q3), .second, .val (.long q4), .second, .val (.int p5), .val (.int p6), .val (.int (1 : Int32)), .val (.long nn), .second, .val (.long ii), .second, .val (.long jj), .second, .val (.long kk), .second, .val (.ref b31), .val (.int ((own_upd (own_upd own_z ii p5) jj p6) ii)), .val (.int ((own_upd (own_upd own_z ii p5) jj p6) jj)), .val (.int ((own_upd (own_upd own_z ii p5) jj p6) kk)), .unset, .unset] [(.int p5)]))
        refine own_go (fun t k => XS.istore X59.here hx rfl (hb hby at_151) rfl (l' := #[.val (.int p1), .val (.long q2), .second, .val (.long q3), .second, .val (.long q4), .second, .val (.int p5), .val (.int p6), .val (.int (1 : Int32)), .val (.long nn), .second, .val (.long ii), .second, .val (.long jj), .second, .val (.long kk), .second, .val (.ref b31), .val (.int ((own_upd (own_upd own_z ii p5) jj p6) ii)), .val (.int ((own_upd (own_upd own_z ii p5) jj p6) jj)), .val (.int ((own_upd (own_upd own_z ii p5) jj p6) kk)), .val (.int p5), .unset]) rfl k) ?_
        refine own_go (fun t k => XS.lload X59.here hx rfl (hb hby at_153) rfl  k) ?_
        refine own_go (fun t k => XS.lload X59.here hx rfl (hb hby at_155) rfl  k) ?_
        refine own_go (fun t k => XS.lcmp X59.here hx rfl (hb hby at_157) rfl k) ?_
        by_cases hc158 : (lcmpW kk jj) = (0 : Int32)
        · refine own_go (fun t k => XS.ifNo X59.here hx rfl (hb hby at_158) rfl ((if0 _ _).trans (teq hc158).2) k) ?_
          show own_Run p e below Φ (T59.setTop (mkF m 161 #[.val (.int p1), .val (.long q2), .second, .val (.long q3), .second, .val (.long q4), .second, .val (.int p5), .val (.int p6), .val (.int (1 : Int32)), .val (.long nn), .second, .val (.long ii), .second, .val (.long jj), .second, .val (.long kk), .second, .val (.ref b31), .val (.int ((own_upd (own_upd own_z ii p5) jj p6) ii)), .val (.int ((own_upd (own_upd own_z ii p5) jj p6) jj)), .val (.int ((own_upd (own_upd own_z ii p5) jj p6) kk)), .val (.int p5), .unset] []))
          refine own_go (fun t k => XS.iload X59.here hx rfl (hb hby at_161) rfl  k) ?_
          refine own_go (fun t k => XS.istore X59.here hx rfl (hb hby at_163) rfl (l' := #[.val (.int p1), .val (.long q2), .second, .val (.long q3), .second, .val (.long q4), .second, .val (.int p5), .val (.int p6), .val (.int (1 : Int32)), .val (.long nn), .second, .val (.long ii), .second, .val (.long jj), .second, .val (.long kk), .second, .val (.ref b31), .val (.int ((own_upd (own_upd own_z ii p5) jj p6) ii)), .val (.int ((own_upd (own_upd own_z ii p5) jj p6) jj)), .val (.int ((own_upd (own_upd own_z ii p5) jj p6) kk)), .val (.int p5), .val (.int p6)]) rfl k) ?_
          refine own_go (fun t k => XS.goto X59.here hx rfl (pc0 := 165) (pc' := 186) rfl (hb hby at_165) (by decide) (by decide) k) ?_
          refine own_go (fun t k => XS.iload X59.here hx rfl (hb hby at_186) rfl  k) ?_
          refine own_go (fun t k => XS.iload X59.here hx rfl (hb hby at_188) rfl  k) ?_
          show own_Run p e below Φ (T59.setTop (mkF m 190 #[.val (.int p1), .val (.long q2), .second, .val (.long q3), .second, .val (.long q4), .second, .val (.int p5), .val (.int p6), .val (.int (1 : Int32)), .val (.long nn), .second, .val (.long ii), .second, .val (.long jj), .second, .val (.long kk), .second, .val (.ref b31), .val (.int ((own_upd (own_upd own_z ii p5) jj p6) ii)), .val (.int ((own_upd (own_upd own_z ii p5) jj p6) jj)), .val (.int ((own_upd (own_upd own_z ii p5) jj p6) kk)), .val (.int p5), .val (.int p6)] [(.int p5), (.int ((own_upd (own_upd own_z ii p5) jj p6) ii))]))
          have hc190 : ((own_upd (own_upd own_z ii p5) jj p6) ii) = p5 := ((own_u2 hc141).trans own_u1')
          refine own_go (fun t k => XS.icmpNo X59.here hx rfl (hb hby at_190) rfl (teq hc190).2 k) ?_
          refine own_go (fun t k => XS.iload X59.here hx rfl (hb hby at_193) rfl  k) ?_
          refine own_go (fun t k => XS.iload X59.here hx rfl (hb hby at_195) rfl  k) ?_
          have hc197 : ((own_upd (own_upd own_z ii p5) jj p6) jj) = p6 := own_u1'
          refine own_go (fun t k => XS.icmpNo X59.here hx rfl (hb hby at_197) rfl (teq hc197).2 k) ?_
          refine own_go (fun t k => XS.iload X59.here hx rfl (hb hby at_200) rfl  k) ?_
          show own_Run p e below Φ (T59.setTop (mkF m 202 #[.val (.int p1), .val (.long q2), .second, .val (.long q3), .second, .val (.long q4), .second, .val (.int p5), .val (.int p6), .val (.int (1 : Int32)), .val (.long nn), .second, .val (.long ii), .second, .val (.long jj), .second, .val (.long kk), .second, .val (.ref b31), .val (.int ((own_upd (own_upd own_z ii p5) jj p6) ii)), .val (.int ((own_upd (own_upd own_z ii p5) jj p6) jj)), .val (.int ((own_upd (own_upd own_z ii p5) jj p6) kk)), .val (.int p5), .val (.int p6)] [(.int ((own_upd (own_upd own_z ii p5) jj p6) kk))]))
          refine own_go (fun t k => XS.iload X59.here hx rfl (hb hby at_202) rfl  k) ?_
          have hc204 : ((own_upd (own_upd own_z ii p5) jj p6) kk) = p6 := (own_u1 hc158)
          refine own_go (fun t k => XS.icmpNo X59.here hx rfl (hb hby at_204) rfl (teq hc204).2 k) ?_
          refine own_go (fun t k => XS.aload X59.here hx rfl (hb hby at_207) rfl rfl  k) ?_
          have F66 : Fld Z h53 b31 "com/example/hueline/hueline/model/BigIntArray" "length" "J" (.long nn) := ((P49_1.keep K50 (ninS ne_b31_x0 nin0)).keep K53 (ninS ne_b31_x0 nin0))
          refine own_callV X59 hx hZ (y := (⟨"com/example/hueline/hueline/model/BigIntArray", "length", "()J"⟩ : MethodName)) (z := (⟨"com/example/hueline/hueline/model/BigIntArray", "length", "()J"⟩ : MethodName)) (W := 0) (a := b31) (argsL := []) (rest := []) hown (hw _ (List.mem_of_getElem? (i := 59) rfl)) (hw _ (List.mem_of_getElem? (i := 60) rfl)) (notFace_of_selects (args := #[]) (mvT hZ (hw _ (List.mem_of_getElem? (i := 62) rfl)))) (hw _ (List.mem_of_getElem? (i := 62) rfl)) (hw _ (List.mem_of_getElem? (i := 61) rfl)) (by decide) (own_bk (rm_ln l Z a0 hw b31 nn h53 n0 F66) hZ (hw _ (List.mem_of_getElem? (i := 63) rfl)) (hw _ (List.mem_of_getElem? (i := 3) rfl)) (by decide) (by decide)) e59 F57 (g := (mkF m 209 #[.val (.int p1), .val (.long q2), .second, .val (.long q3), .second, .val (.long q4), .second, .val (.int p5), .val (.int p6), .val (.int (1 : Int32)), .val (.long nn), .second, .val (.long ii), .second, .val (.long jj), .second, .val (.long kk), .second, .val (.ref b31), .val (.int ((own_upd (own_upd own_z ii p5) jj p6) ii)), .val (.int ((own_upd (own_upd own_z ii p5) jj p6) jj)), .val (.int ((own_upd (own_upd own_z ii p5) jj p6) kk)), .val (.int p5), .val (.int p6)] [(.ref b31)])) rfl (by rw [hml]; rfl) (lenOf pd_7 rfl) rfl (by show 2 * 0 + _ ≤ _; exact Nat.le_of_eq rfl) (hb hby at_209) (by decide) (by decide) (fun v67 T67 h67 L67 X67 e67 q67 => ?_)
          obtain ⟨rfl, M67, s67⟩ := q67
          replace e67 : T67.heap = h53 := e67.trans s67
          have N67 := Fr.app N59 M67
          refine own_go (fun t k => XS.lload X67.here hx rfl (hb hby at_212) rfl  k) ?_
          show own_Run p e below Φ (T67.setTop (mkF m 214 #[.val (.int p1), .val (.long q2), .second, .val (.long q3), .second, .val (.long q4), .second, .val (.int p5), .val (.int p6), .val (.int (1 : Int32)), .val (.long nn), .second, .val (.long ii), .second, .val (.long jj), .second, .val (.long kk), .second, .val (.ref b31), .val (.int ((own_upd (own_upd own_z ii p5) jj p6) ii)), .val (.int ((own_upd (own_upd own_z ii p5) jj p6) jj)), .val (.int ((own_upd (own_upd own_z ii p5) jj p6) kk)), .val (.int p5), .val (.int p6)] [(.long nn), (.long nn)]))
          refine own_go (fun t k => XS.lcmp X67.here hx rfl (hb hby at_214) rfl k) ?_
          have hc215 : (lcmpW nn nn) = (0 : Int32) := ((lw_eq _ _).mpr rfl)
          refine own_go (fun t k => XS.ifNo X67.here hx rfl (hb hby at_215) rfl ((if0 _ _).trans (teq hc215).2) k) ?_
          refine own_go (fun t k => XS.iconst X67.here hx rfl (hb hby at_218) k) ?_
          refine own_go (fun t k => XS.goto X67.here hx rfl (pc0 := 219) (pc' := 223) rfl (hb hby at_219) (by decide) (by decide) k) ?_
          subst hΦ
          exact own_retN X67 hx (t := .boolean) Bd.returns (by simp) hlk (hb hby at_223) e67 ⟨rfl, N67⟩ (by decide) (by decide)
        · refine own_go (fun t k => XS.ifYes X59.here hx rfl (pc0 := 158) (pc' := 168) rfl (hb hby at_158) rfl ((if0 _ _).trans (feq hc158).2) (by decide) (by decide) k) ?_
          show own_Run p e below Φ (T59.setTop (mkF m 168 #[.val (.int p1), .val (.long q2), .second, .val (.long q3), .second, .val (.long q4), .second, .val (.int p5), .val (.int p6), .val (.int (1 : Int32)), .val (.long nn), .second, .val (.long ii), .second, .val (.long jj), .second, .val (.long kk), .second, .val (.ref b31), .val (.int ((own_upd (own_upd own_z ii p5) jj p6) ii)), .val (.int ((own_upd (own_upd own_z ii p5) jj p6) jj)), .val (.int ((own_upd (own_upd own_z ii p5) jj p6) kk)), .val (.int p5), .unset] []))
          refine own_go (fun t k => XS.lload X59.here hx rfl (hb hby at_168) rfl  k) ?_
          refine own_go (fun t k => XS.lload X59.here hx rfl (hb hby at_170) rfl  k) ?_
          refine own_go (fun t k => XS.lcmp X59.here hx rfl (hb hby at_172) rfl k) ?_
          by_cases hc173 : (lcmpW kk ii) = (0 : Int32)
          · refine own_go (fun t k => XS.ifNo X59.here hx rfl (hb hby at_173) rfl ((if0 _ _).trans (teq hc173).2) k) ?_
            refine own_go (fun t k => XS.iload X59.here hx rfl (hb hby at_176) rfl  k) ?_
            show own_Run p e below Φ (T59.setTop (mkF m 178 #[.val (.int p1), .val (.long q2), .second, .val (.long q3), .second, .val (.long q4), .second, .val (.int p5), .val (.int p6), .val (.int (1 : Int32)), .val (.long nn), .second, .val (.long ii), .second, .val (.long jj), .second, .val (.long kk), .second, .val (.ref b31), .val (.int ((own_upd (own_upd own_z ii p5) jj p6) ii)), .val (.int ((own_upd (own_upd own_z ii p5) jj p6) jj)), .val (.int ((own_upd (own_upd own_z ii p5) jj p6) kk)), .val (.int p5), .unset] [(.int p5)]))
            refine own_go (fun t k => XS.istore X59.here hx rfl (hb hby at_178) rfl (l' := #[.val (.int p1), .val (.long q2), .second, .val (.long q3), .second, .val (.long q4), .second, .val (.int p5), .val (.int p6), .val (.int (1 : Int32)), .val (.long nn), .second, .val (.long ii), .second, .val (.long jj), .second, .val (.long kk), .second, .val (.ref b31), .val (.int ((own_upd (own_upd own_z ii p5) jj p6) ii)), .val (.int ((own_upd (own_upd own_z ii p5) jj p6) jj)), .val (.int ((own_upd (own_upd own_z ii p5) jj p6) kk)), .val (.int p5), .val (.int p5)]) rfl k) ?_
            refine own_go (fun t k => XS.goto X59.here hx rfl (pc0 := 180) (pc' := 186) rfl (hb hby at_180) (by decide) (by decide) k) ?_
            refine own_go (fun t k => XS.iload X59.here hx rfl (hb hby at_186) rfl  k) ?_
            refine own_go (fun t k => XS.iload X59.here hx rfl (hb hby at_188) rfl  k) ?_
            have hc190 : ((own_upd (own_upd own_z ii p5) jj p6) ii) = p5 := ((own_u2 hc141).trans own_u1')
            refine own_go (fun t k => XS.icmpNo X59.here hx rfl (hb hby at_190) rfl (teq hc190).2 k) ?_
            show own_Run p e below Φ (T59.setTop (mkF m 193 #[.val (.int p1), .val (.long q2), .second, .val (.long q3), .second, .val (.long q4), .second, .val (.int p5), .val (.int p6), .val (.int (1 : Int32)), .val (.long nn), .second, .val (.long ii), .second, .val (.long jj), .second, .val (.long kk), .second, .val (.ref b31), .val (.int ((own_upd (own_upd own_z ii p5) jj p6) ii)), .val (.int ((own_upd (own_upd own_z ii p5) jj p6) jj)), .val (.int ((own_upd (own_upd own_z ii p5) jj p6) kk)), .val (.int p5), .val (.int p5)] []))
            refine own_go (fun t k => XS.iload X59.here hx rfl (hb hby at_193) rfl  k) ?_
            refine own_go (fun t k => XS.iload X59.here hx rfl (hb hby at_195) rfl  k) ?_
            have hc197 : ((own_upd (own_upd own_z ii p5) jj p6) jj) = p6 := own_u1'
            refine own_go (fun t k => XS.icmpNo X59.here hx rfl (hb hby at_197) rfl (teq hc197).2 k) ?_
            refine own_go (fun t k => XS.iload X59.here hx rfl (hb hby at_200) rfl  k) ?_
            refine own_go (fun t k => XS.iload X59.here hx rfl (hb hby at_202) rfl  k) ?_
            show own_Run p e below Φ (T59.setTop (mkF m 204 #[.val (.int p1), .val (.long q2), .second, .val (.long q3), .second, .val (.long q4), .second, .val (.int p5), .val (.int p6), .val (.int (1 : Int32)), .val (.long nn), .second, .val (.long ii), .second, .val (.long jj), .second, .val (.long kk), .second, .val (.ref b31), .val (.int ((own_upd (own_upd own_z ii p5) jj p6) ii)), .val (.int ((own_upd (own_upd own_z ii p5) jj p6) jj)), .val (.int ((own_upd (own_upd own_z ii p5) jj p6) kk)), .val (.int p5), .val (.int p5)] [(.int p5), (.int ((own_upd (own_upd own_z ii p5) jj p6) kk))]))
            have hc204 : ((own_upd (own_upd own_z ii p5) jj p6) kk) = p5 := ((own_u2 hc158).trans (own_u1 hc173))
            refine own_go (fun t k => XS.icmpNo X59.here hx rfl (hb hby at_204) rfl (teq hc204).2 k) ?_
            refine own_go (fun t k => XS.aload X59.here hx rfl (hb hby at_207) rfl rfl  k) ?_
            have F68 : Fld Z h53 b31 "com/example/hueline/hueline/model/BigIntArray" "length" "J" (.long nn) := ((P49_1.keep K50 (ninS ne_b31_x0 nin0)).keep K53 (ninS ne_b31_x0 nin0))
            refine own_callV X59 hx hZ (y := (⟨"com/example/hueline/hueline/model/BigIntArray", "length", "()J"⟩ : MethodName)) (z := (⟨"com/example/hueline/hueline/model/BigIntArray", "length", "()J"⟩ : MethodName)) (W := 0) (a := b31) (argsL := []) (rest := []) hown (hw _ (List.mem_of_getElem? (i := 59) rfl)) (hw _ (List.mem_of_getElem? (i := 60) rfl)) (notFace_of_selects (args := #[]) (mvT hZ (hw _ (List.mem_of_getElem? (i := 62) rfl)))) (hw _ (List.mem_of_getElem? (i := 62) rfl)) (hw _ (List.mem_of_getElem? (i := 61) rfl)) (by decide) (own_bk (rm_ln l Z a0 hw b31 nn h53 n0 F68) hZ (hw _ (List.mem_of_getElem? (i := 63) rfl)) (hw _ (List.mem_of_getElem? (i := 3) rfl)) (by decide) (by decide)) e59 F57 (g := (mkF m 209 #[.val (.int p1), .val (.long q2), .second, .val (.long q3), .second, .val (.long q4), .second, .val (.int p5), .val (.int p6), .val (.int (1 : Int32)), .val (.long nn), .second, .val (.long ii), .second, .val (.long jj), .second, .val (.long kk), .second, .val (.ref b31), .val (.int ((own_upd (own_upd own_z ii p5) jj p6) ii)), .val (.int ((own_upd (own_upd own_z ii p5) jj p6) jj)), .val (.int ((own_upd (own_upd own_z ii p5) jj p6) kk)), .val (.int p5), .val (.int p5)] [(.ref b31)])) rfl (by rw [hml]; rfl) (lenOf pd_7 rfl) rfl (by show 2 * 0 + _ ≤ _; exact Nat.le_of_eq rfl) (hb hby at_209) (by decide) (by decide) (fun v69 T69 h69 L69 X69 e69 q69 => ?_)
            obtain ⟨rfl, M69, s69⟩ := q69
            replace e69 : T69.heap = h53 := e69.trans s69
            have N69 := Fr.app N59 M69
            refine own_go (fun t k => XS.lload X69.here hx rfl (hb hby at_212) rfl  k) ?_
            refine own_go (fun t k => XS.lcmp X69.here hx rfl (hb hby at_214) rfl k) ?_
            show own_Run p e below Φ (T69.setTop (mkF m 215 #[.val (.int p1), .val (.long q2), .second, .val (.long q3), .second, .val (.long q4), .second, .val (.int p5), .val (.int p6), .val (.int (1 : Int32)), .val (.long nn), .second, .val (.long ii), .second, .val (.long jj), .second, .val (.long kk), .second, .val (.ref b31), .val (.int ((own_upd (own_upd own_z ii p5) jj p6) ii)), .val (.int ((own_upd (own_upd own_z ii p5) jj p6) jj)), .val (.int ((own_upd (own_upd own_z ii p5) jj p6) kk)), .val (.int p5), .val (.int p5)] [(.int (lcmpW nn nn))]))
            have hc215 : (lcmpW nn nn) = (0 : Int32) := ((lw_eq _ _).mpr rfl)
            refine own_go (fun t k => XS.ifNo X69.here hx rfl (hb hby at_215) rfl ((if0 _ _).trans (teq hc215).2) k) ?_
            refine own_go (fun t k => XS.iconst X69.here hx rfl (hb hby at_218) k) ?_
            refine own_go (fun t k => XS.goto X69.here hx rfl (pc0 := 219) (pc' := 223) rfl (hb hby at_219) (by decide) (by decide) k) ?_
            subst hΦ
            exact own_retN X69 hx (t := .boolean) Bd.returns (by simp) hlk (hb hby at_223) e69 ⟨rfl, N69⟩ (by decide) (by decide)
          · refine own_go (fun t k => XS.ifYes X59.here hx rfl (pc0 := 173) (pc' := 183) rfl (hb hby at_173) rfl ((if0 _ _).trans (feq hc173).2) (by decide) (by decide) k) ?_
            refine own_go (fun t k => XS.iconst X59.here hx rfl (hb hby at_183) k) ?_
            show own_Run p e below Φ (T59.setTop (mkF m 184 #[.val (.int p1), .val (.long q2), .second, .val (.long q3), .second, .val (.long q4), .second, .val (.int p5), .val (.int p6), .val (.int (1 : Int32)), .val (.long nn), .second, .val (.long ii), .second, .val (.long jj), .second, .val (.long kk), .second, .val (.ref b31), .val (.int ((own_upd (own_upd own_z ii p5) jj p6) ii)), .val (.int ((own_upd (own_upd own_z ii p5) jj p6) jj)), .val (.int ((own_upd (own_upd own_z ii p5) jj p6) kk)), .val (.int p5), .unset] [(.int (0 : Int32))]))
            refine own_go (fun t k => XS.istore X59.here hx rfl (hb hby at_184) rfl (l' := #[.val (.int p1), .val (.long q2), .second, .val (.long q3), .second, .val (.long q4), .second, .val (.int p5), .val (.int p6), .val (.int (1 : Int32)), .val (.long nn), .second, .val (.long ii), .second, .val (.long jj), .second, .val (.long kk), .second, .val (.ref b31), .val (.int ((own_upd (own_upd own_z ii p5) jj p6) ii)), .val (.int ((own_upd (own_upd own_z ii p5) jj p6) jj)), .val (.int ((own_upd (own_upd own_z ii p5) jj p6) kk)), .val (.int p5), .val (.int (0 : Int32))]) rfl k) ?_
            refine own_go (fun t k => XS.iload X59.here hx rfl (hb hby at_186) rfl  k) ?_
            refine own_go (fun t k => XS.iload X59.here hx rfl (hb hby at_188) rfl  k) ?_
            have hc190 : ((own_upd (own_upd own_z ii p5) jj p6) ii) = p5 := ((own_u2 hc141).trans own_u1')
            refine own_go (fun t k => XS.icmpNo X59.here hx rfl (hb hby at_190) rfl (teq hc190).2 k) ?_
            refine own_go (fun t k => XS.iload X59.here hx rfl (hb hby at_193) rfl  k) ?_
            show own_Run p e below Φ (T59.setTop (mkF m 195 #[.val (.int p1), .val (.long q2), .second, .val (.long q3), .second, .val (.long q4), .second, .val (.int p5), .val (.int p6), .val (.int (1 : Int32)), .val (.long nn), .second, .val (.long ii), .second, .val (.long jj), .second, .val (.long kk), .second, .val (.ref b31), .val (.int ((own_upd (own_upd own_z ii p5) jj p6) ii)), .val (.int ((own_upd (own_upd own_z ii p5) jj p6) jj)), .val (.int ((own_upd (own_upd own_z ii p5) jj p6) kk)), .val (.int p5), .val (.int (0 : Int32))] [(.int ((own_upd (own_upd own_z ii p5) jj p6) jj))]))
            refine own_go (fun t k => XS.iload X59.here hx rfl (hb hby at_195) rfl  k) ?_
            have hc197 : ((own_upd (own_upd own_z ii p5) jj p6) jj) = p6 := own_u1'
            refine own_go (fun t k => XS.icmpNo X59.here hx rfl (hb hby at_197) rfl (teq hc197).2 k) ?_
            refine own_go (fun t k => XS.iload X59.here hx rfl (hb hby at_200) rfl  k) ?_
            refine own_go (fun t k => XS.iload X59.here hx rfl (hb hby at_202) rfl  k) ?_
            have hc204 : ((own_upd (own_upd own_z ii p5) jj p6) kk) = (0 : Int32) := ((own_u2 hc158).trans (own_u2 hc173))
            refine own_go (fun t k => XS.icmpNo X59.here hx rfl (hb hby at_204) rfl (teq hc204).2 k) ?_
            show own_Run p e below Φ (T59.setTop (mkF m 207 #[.val (.int p1), .val (.long q2), .second, .val (.long q3), .second, .val (.long q4), .second, .val (.int p5), .val (.int p6), .val (.int (1 : Int32)), .val (.long nn), .second, .val (.long ii), .second, .val (.long jj), .second, .val (.long kk), .second, .val (.ref b31), .val (.int ((own_upd (own_upd own_z ii p5) jj p6) ii)), .val (.int ((own_upd (own_upd own_z ii p5) jj p6) jj)), .val (.int ((own_upd (own_upd own_z ii p5) jj p6) kk)), .val (.int p5), .val (.int (0 : Int32))] []))
            refine own_go (fun t k => XS.aload X59.here hx rfl (hb hby at_207) rfl rfl  k) ?_
            have F70 : Fld Z h53 b31 "com/example/hueline/hueline/model/BigIntArray" "length" "J" (.long nn) := ((P49_1.keep K50 (ninS ne_b31_x0 nin0)).keep K53 (ninS ne_b31_x0 nin0))
            refine own_callV X59 hx hZ (y := (⟨"com/example/hueline/hueline/model/BigIntArray", "length", "()J"⟩ : MethodName)) (z := (⟨"com/example/hueline/hueline/model/BigIntArray", "length", "()J"⟩ : MethodName)) (W := 0) (a := b31) (argsL := []) (rest := []) hown (hw _ (List.mem_of_getElem? (i := 59) rfl)) (hw _ (List.mem_of_getElem? (i := 60) rfl)) (notFace_of_selects (args := #[]) (mvT hZ (hw _ (List.mem_of_getElem? (i := 62) rfl)))) (hw _ (List.mem_of_getElem? (i := 62) rfl)) (hw _ (List.mem_of_getElem? (i := 61) rfl)) (by decide) (own_bk (rm_ln l Z a0 hw b31 nn h53 n0 F70) hZ (hw _ (List.mem_of_getElem? (i := 63) rfl)) (hw _ (List.mem_of_getElem? (i := 3) rfl)) (by decide) (by decide)) e59 F57 (g := (mkF m 209 #[.val (.int p1), .val (.long q2), .second, .val (.long q3), .second, .val (.long q4), .second, .val (.int p5), .val (.int p6), .val (.int (1 : Int32)), .val (.long nn), .second, .val (.long ii), .second, .val (.long jj), .second, .val (.long kk), .second, .val (.ref b31), .val (.int ((own_upd (own_upd own_z ii p5) jj p6) ii)), .val (.int ((own_upd (own_upd own_z ii p5) jj p6) jj)), .val (.int ((own_upd (own_upd own_z ii p5) jj p6) kk)), .val (.int p5), .val (.int (0 : Int32))] [(.ref b31)])) rfl (by rw [hml]; rfl) (lenOf pd_7 rfl) rfl (by show 2 * 0 + _ ≤ _; exact Nat.le_of_eq rfl) (hb hby at_209) (by decide) (by decide) (fun v71 T71 h71 L71 X71 e71 q71 => ?_)
            obtain ⟨rfl, M71, s71⟩ := q71
            replace e71 : T71.heap = h53 := e71.trans s71
            have N71 := Fr.app N59 M71
            refine own_go (fun t k => XS.lload X71.here hx rfl (hb hby at_212) rfl  k) ?_
            refine own_go (fun t k => XS.lcmp X71.here hx rfl (hb hby at_214) rfl k) ?_
            have hc215 : (lcmpW nn nn) = (0 : Int32) := ((lw_eq _ _).mpr rfl)
            refine own_go (fun t k => XS.ifNo X71.here hx rfl (hb hby at_215) rfl ((if0 _ _).trans (teq hc215).2) k) ?_
            show own_Run p e below Φ (T71.setTop (mkF m 218 #[.val (.int p1), .val (.long q2), .second, .val (.long q3), .second, .val (.long q4), .second, .val (.int p5), .val (.int p6), .val (.int (1 : Int32)), .val (.long nn), .second, .val (.long ii), .second, .val (.long jj), .second, .val (.long kk), .second, .val (.ref b31), .val (.int ((own_upd (own_upd own_z ii p5) jj p6) ii)), .val (.int ((own_upd (own_upd own_z ii p5) jj p6) jj)), .val (.int ((own_upd (own_upd own_z ii p5) jj p6) kk)), .val (.int p5), .val (.int (0 : Int32))] []))
            refine own_go (fun t k => XS.iconst X71.here hx rfl (hb hby at_218) k) ?_
            refine own_go (fun t k => XS.goto X71.here hx rfl (pc0 := 219) (pc' := 223) rfl (hb hby at_219) (by decide) (by decide) k) ?_
            subst hΦ
            exact own_retN X71 hx (t := .boolean) Bd.returns (by simp) hlk (hb hby at_223) e71 ⟨rfl, N71⟩ (by decide) (by decide)
    · obtain ⟨zl, hzl⟩ := own_ex (n := nn) 4 (by decide) (by omega)
      show own_Run p e below Φ (s₁.setTop (mkF m 60 #[.val (.int p1), .val (.long q2), .second, .val (.long q3), .second, .val (.long q4), .second, .val (.int p5), .val (.int p6), .val (.int (1 : Int32)), .val (.long nn), .second, .val (.long ii), .second, .val (.long jj), .second, .val (.long kk), .second, .unset, .unset, .unset, .unset, .unset, .unset] []))
      obtain ⟨T72, h72, X72, e72, E72, A72, D72, -, st72⟩ := newO X0 hx hZ hown (hw _ (List.mem_of_getElem? (i := 1) rfl)) (hw _ (List.mem_of_getElem? (i := 2) rfl)) (hw _ (List.mem_of_getElem? (i := 3) rfl)) e0 (g := (mkF m 60 #[.val (.int p1), .val (.long q2), .second, .val (.long q3), .second, .val (.long q4), .second, .val (.int p5), .val (.int p6), .val (.int (1 : Int32)), .val (.long nn), .second, .val (.long ii), .second, .val (.long jj), .second, .val (.long kk), .second, .unset, .unset, .unset, .unset, .unset, .unset] [])) rfl (hb hby at_60) (by decide) (by decide)
      refine own_go st72 ?_
      obtain ⟨b72, g72⟩ : ∃ z, z = h0.size := ⟨_, rfl⟩
      rw [← g72] at A72 D72 ⊢
      have G73 : Fld Z h72 b72 "com/example/hueline/hueline/model/BigIntArray" "layout" "Lcom/example/hueline/hueline/model/Pages;" .null := D72 (Or.inr (hw _ (List.mem_of_getElem? (i := 17) rfl))) (ty := (.object "com/example/hueline/hueline/model/Pages")) (by decide)
      have G74 : Fld Z h72 b72 "com/example/hueline/hueline/model/BigIntArray" "pages" "[[I" .null := D72 (Or.inl (hw _ (List.mem_of_getElem? (i := 31) rfl))) (ty := (.array (.array .int))) (by decide)
      have G75 : Fld Z h72 b72 "com/example/hueline/hueline/model/BigIntArray" "length" "J" (.long (0 : Int64)) := D72 (Or.inl (hw _ (List.mem_of_getElem? (i := 33) rfl))) (ty := .long) (by decide)
      have G76 : Fld Z h72 b72 "com/example/hueline/hueline/model/BigIntArray" "flat" "[I" .null := D72 (Or.inl (hw _ (List.mem_of_getElem? (i := 48) rfl))) (ty := (.array .int)) (by decide)
      refine own_go (fun t k => XS.dup X72.here hx rfl (hb hby at_63) rfl rfl k) ?_
      refine own_go (fun t k => XS.lload X72.here hx rfl (hb hby at_64) rfl  k) ?_
      show own_Run p e below Φ (T72.setTop (mkF m 66 #[.val (.int p1), .val (.long q2), .second, .val (.long q3), .second, .val (.long q4), .second, .val (.int p5), .val (.int p6), .val (.int (1 : Int32)), .val (.long nn), .second, .val (.long ii), .second, .val (.long jj), .second, .val (.long kk), .second, .unset, .unset, .unset, .unset, .unset, .unset] [(.long nn), (.ref b72), (.ref b72)]))
      have F78 : n0 ≤ h72.size := (Nat.le_trans Z0 E72.1)
      obtain ⟨T77, h77, X77, e77, E77, A77, D77, -, st77⟩ := newO X72 hx hZ hown (hw _ (List.mem_of_getElem? (i := 64) rfl)) (hw _ (List.mem_of_getElem? (i := 65) rfl)) (hw _ (List.mem_of_getElem? (i := 8) rfl)) e72 (g := (mkF m 66 #[.val (.int p1), .val (.long q2), .second, .val (.long q3), .second, .val (.long q4), .second, .val (.int p5), .val (.int p6), .val (.int (1 : Int32)), .val (.long nn), .second, .val (.long ii), .second, .val (.long jj), .second, .val (.long kk), .second, .unset, .unset, .unset, .unset, .unset, .unset] [(.long nn), (.ref b72), (.ref b72)])) rfl (hb hby at_66) (by decide) (by decide)
      refine own_go st77 ?_
      obtain ⟨b77, g77⟩ : ∃ z, z = h72.size := ⟨_, rfl⟩
      rw [← g77] at A77 D77 ⊢
      have ne_b72_b77 : b72 ≠ b77 := Nat.ne_of_lt (Nat.lt_of_lt_of_le A72.lt (Nat.le_of_eq g77.symm))
      have G79 : Fld Z h77 b77 "com/example/hueline/hueline/model/Pages" "mask" "I" (.int (0 : Int32)) := D77 (Or.inr (hw _ (List.mem_of_getElem? (i := 24) rfl))) (ty := .int) (by decide)
      have G80 : Fld Z h77 b77 "com/example/hueline/hueline/model/Pages" "shift" "I" (.int (0 : Int32)) := D77 (Or.inr (hw _ (List.mem_of_getElem? (i := 26) rfl))) (ty := .int) (by decide)
      have G81 : Fld Z h77 b77 "com/example/hueline/hueline/model/Pages" "length" "I" (.int (0 : Int32)) := D77 (Or.inr (hw _ (List.mem_of_getElem? (i := 40) rfl))) (ty := .int) (by decide)
      refine own_go (fun t k => XS.dup X77.here hx rfl (hb hby at_69) rfl rfl k) ?_
      refine own_go (fun t k => XS.iconst X77.here hx rfl (hb hby at_70) k) ?_
      refine own_callI X77 hx hZ (y := (⟨"com/example/hueline/hueline/model/Pages", "<init>", "(I)V"⟩ : MethodName)) (W := 5) (a := b77) (argsL := [(.int (2 : Int32))]) (rest := [(.ref b77), (.long nn), (.ref b72), (.ref b72)]) rfl hown (hw _ (List.mem_of_getElem? (i := 66) rfl)) (hw _ (List.mem_of_getElem? (i := 67) rfl)) (hw _ (List.mem_of_getElem? (i := 68) rfl)) (by decide) (own_bk (rm_pi l Z a0 hw b77 h77 n0 A77 G79 G80 G81 (Nat.le_trans F78 (Nat.le_of_eq g77.symm))) hZ (hw _ (List.mem_of_getElem? (i := 68) rfl)) (hw _ (List.mem_of_getElem? (i := 8) rfl)) (by decide) (by decide)) e77 (g := (mkF m 71 #[.val (.int p1), .val (.long q2), .second, .val (.long q3), .second, .val (.long q4), .second, .val (.int p5), .val (.int p6), .val (.int (1 : Int32)), .val (.long nn), .second, .val (.long ii), .second, .val (.long jj), .second, .val (.long kk), .second, .unset, .unset, .unset, .unset, .unset, .unset] [(.int (2 : Int32)), (.ref b77), (.ref b77), (.long nn), (.ref b72), (.ref b72)])) rfl (by rw [hml]; rfl) (lenOf pd_8 rfl) rfl (by show 2 * 0 + _ ≤ _; exact Nat.le_of_eq rfl) (hb hby at_71) (by decide) (by decide) (fun v82 T82 h82 L82 X82 e82 q82 => ?_)
      obtain ⟨rfl, M82, K82, P82_0, P82_1, P82_2⟩ := q82
      have N82 := Fr.app N0 M82
      have F83 : Exa Z h82 b72 "com/example/hueline/hueline/model/BigIntArray" := ((A72.ext E77).keep K82)
      have F84 : Exa Z h82 b77 "com/example/hueline/hueline/model/Pages" := (A77.keep K82)
      have F85 : Fld Z h82 b72 "com/example/hueline/hueline/model/BigIntArray" "layout" "Lcom/example/hueline/hueline/model/Pages;" .null := ((G73.ext E77).keep K82 (ninS ne_b72_b77 nin0))
      have F86 : Fld Z h82 b72 "com/example/hueline/hueline/model/BigIntArray" "pages" "[[I" .null := ((G74.ext E77).keep K82 (ninS ne_b72_b77 nin0))
      have F87 : Fld Z h82 b72 "com/example/hueline/hueline/model/BigIntArray" "length" "J" (.long (0 : Int64)) := ((G75.ext E77).keep K82 (ninS ne_b72_b77 nin0))
      have F88 : Fld Z h82 b72 "com/example/hueline/hueline/model/BigIntArray" "flat" "[I" .null := ((G76.ext E77).keep K82 (ninS ne_b72_b77 nin0))
      have F89 : n0 ≤ h82.size := (Nat.le_trans (Nat.le_trans F78 E77.1) K82.1)
      refine own_callI X82 hx hZ (y := (⟨"com/example/hueline/hueline/model/BigIntArray", "<init>", "(JLcom/example/hueline/hueline/model/Pages;)V"⟩ : MethodName)) (W := 1) (a := b72) (argsL := [(.long nn), (.ref b77)]) (rest := [(.ref b72)]) rfl hown (hw _ (List.mem_of_getElem? (i := 70) rfl)) (hw _ (List.mem_of_getElem? (i := 11) rfl)) (hw _ (List.mem_of_getElem? (i := 12) rfl)) (by decide) (own_bk (rm_ct2 l Z a0 hw b72 nn b77 zl h82 n0 F83 F85 F86 F87 F88 (Nat.le_trans Z0 (Nat.le_of_eq g72.symm)) F89 F84 P82_2 P82_0 P82_1 (Ne.symm ne_b72_b77) ⟨by omega, by omega⟩ (by omega)) hZ (hw _ (List.mem_of_getElem? (i := 12) rfl)) (hw _ (List.mem_of_getElem? (i := 3) rfl)) (by decide) (by decide)) e82 (g := (mkF m 74 #[.val (.int p1), .val (.long q2), .second, .val (.long q3), .second, .val (.long q4), .second, .val (.int p5), .val (.int p6), .val (.int (1 : Int32)), .val (.long nn), .second, .val (.long ii), .second, .val (.long jj), .second, .val (.long kk), .second, .unset, .unset, .unset, .unset, .unset, .unset] [(.ref b77), (.long nn), (.ref b72), (.ref b72)])) rfl (by rw [hml]; rfl) (lenOf pd_1 rfl) rfl (by show 2 * 0 + _ ≤ _; exact Nat.le_of_eq rfl) (hb hby at_74) (by decide) (by decide) (fun v90 T90 h90 L90 X90 e90 q90 => ?_)
      obtain ⟨rfl, M90, K90, P90_0, P90_1, P90_2, P90_3⟩ := q90
      have N90 := Fr.app N82 M90
      obtain ⟨x9, k9, x0, k0, x1, k1, gx9, zx9, gx0, zx0, gx1, zx1, nx9x0, nx9x1, nx0x1, FF, V9, Vx0, Vx1⟩ := P90_3
      have ne_b72_x9 : b72 ≠ x9 := Nat.ne_of_lt (Nat.lt_of_lt_of_le F83.lt zx9)
      have ne_b77_x9 : b77 ≠ x9 := Nat.ne_of_lt (Nat.lt_of_lt_of_le F84.lt zx9)
      have ne_b72_x0 : b72 ≠ x0 := Nat.ne_of_lt (Nat.lt_of_lt_of_le F83.lt zx0)
      have ne_b77_x0 : b77 ≠ x0 := Nat.ne_of_lt (Nat.lt_of_lt_of_le F84.lt zx0)
      have ne_b72_x1 : b72 ≠ x1 := Nat.ne_of_lt (Nat.lt_of_lt_of_le F83.lt zx1)
      have ne_b77_x1 : b77 ≠ x1 := Nat.ne_of_lt (Nat.lt_of_lt_of_le F84.lt zx1)
      show own_Run p e below Φ (T90.setTop (mkF m 77 #[.val (.int p1), .val (.long q2), .second, .val (.long q3), .second, .val (.long q4), .second, .val (.int p5), .val (.int p6), .val (.int (1 : Int32)), .val (.long nn), .second, .val (.long ii), .second, .val (.long jj), .second, .val (.long kk), .second, .unset, .unset, .unset, .unset, .unset, .unset] [(.ref b72)]))
      refine own_go (fun t k => XS.goto X90.here hx rfl (pc0 := 77) (pc' := 89) rfl (hb hby at_77) (by decide) (by decide) k) ?_
      refine own_go (fun t k => XS.astore X90.here hx rfl (hb hby at_89) rfl rfl (l' := #[.val (.int p1), .val (.long q2), .second, .val (.long q3), .second, .val (.long q4), .second, .val (.int p5), .val (.int p6), .val (.int (1 : Int32)), .val (.long nn), .second, .val (.long ii), .second, .val (.long jj), .second, .val (.long kk), .second, .val (.ref b72), .unset, .unset, .unset, .unset, .unset]) rfl k) ?_
      refine own_go (fun t k => XS.aload X90.here hx rfl (hb hby at_91) rfl rfl  k) ?_
      refine own_go (fun t k => XS.lload X90.here hx rfl (hb hby at_93) rfl  k) ?_
      refine own_go (fun t k => XS.iload X90.here hx rfl (hb hby at_95) rfl  k) ?_
      show own_Run p e below Φ (T90.setTop (mkF m 97 #[.val (.int p1), .val (.long q2), .second, .val (.long q3), .second, .val (.long q4), .second, .val (.int p5), .val (.int p6), .val (.int (1 : Int32)), .val (.long nn), .second, .val (.long ii), .second, .val (.long jj), .second, .val (.long kk), .second, .val (.ref b72), .unset, .unset, .unset, .unset, .unset] [(.int p5), (.long ii), (.ref b72)]))
      have F91 : Exa Z h90 b77 "com/example/hueline/hueline/model/Pages" := (F84.keep K90)
      have F92 : Fld Z h90 b77 "com/example/hueline/hueline/model/Pages" "shift" "I" (.int (2 : Int32)) := (P82_0.keep K90 (ninS (Ne.symm ne_b72_b77) nin0))
      have F93 : Fld Z h90 b77 "com/example/hueline/hueline/model/Pages" "mask" "I" (.int (3 : Int32)) := (P82_2.keep K90 (ninS (Ne.symm ne_b72_b77) nin0))
      have F95 : Exa Z h90 b72 "com/example/hueline/hueline/model/BigIntArray" := (F83.keep K90)
      refine own_callV X90 hx hZ (y := (⟨"com/example/hueline/hueline/model/BigIntArray", "set", "(JI)V"⟩ : MethodName)) (z := (⟨"com/example/hueline/hueline/model/BigIntArray", "set", "(JI)V"⟩ : MethodName)) (W := 0) (a := b72) (argsL := [(.long ii), (.int p5)]) (rest := []) hown (hw _ (List.mem_of_getElem? (i := 49) rfl)) (hw _ (List.mem_of_getElem? (i := 50) rfl)) (notFace_of_selects (args := #[]) (mvT hZ (hw _ (List.mem_of_getElem? (i := 52) rfl)))) (hw _ (List.mem_of_getElem? (i := 52) rfl)) (hw _ (List.mem_of_getElem? (i := 51) rfl)) (by decide) (own_bk (rm_set2 l Z a0 hw b72 ii p5 b77 x9 k9 x0 k0 x1 k1 zl own_z h90 n0 P90_2 FF P90_0 F91 F92 F93 V9 Vx0 Vx1 ⟨by omega, by omega⟩ ⟨by omega, by omega⟩ gx0 gx1 nx0x1 ne_b77_x0 ne_b77_x1) hZ (hw _ (List.mem_of_getElem? (i := 53) rfl)) (hw _ (List.mem_of_getElem? (i := 3) rfl)) (by decide) (by decide)) e90 F95 (g := (mkF m 97 #[.val (.int p1), .val (.long q2), .second, .val (.long q3), .second, .val (.long q4), .second, .val (.int p5), .val (.int p6), .val (.int (1 : Int32)), .val (.long nn), .second, .val (.long ii), .second, .val (.long jj), .second, .val (.long kk), .second, .val (.ref b72), .unset, .unset, .unset, .unset, .unset] [(.int p5), (.long ii), (.ref b72)])) rfl (by rw [hml]; rfl) (lenOf pd_6 rfl) rfl (by show 2 * 0 + _ ≤ _; exact Nat.le_of_eq rfl) (hb hby at_97) (by decide) (by decide) (fun v94 T94 h94 L94 X94 e94 q94 => ?_)
      obtain ⟨rfl, M94, K94, P94_0, P94_1⟩ := q94
      have N94 := Fr.app N90 M94
      refine own_go (fun t k => XS.aload X94.here hx rfl (hb hby at_100) rfl rfl  k) ?_
      refine own_go (fun t k => XS.lload X94.here hx rfl (hb hby at_102) rfl  k) ?_
      refine own_go (fun t k => XS.iload X94.here hx rfl (hb hby at_104) rfl  k) ?_
      have F96 : Fld Z h94 b72 "com/example/hueline/hueline/model/BigIntArray" "flat" "[I" .null := (P90_2.keep K94 (ninS ne_b72_x0 (ninS ne_b72_x1 nin0)))
      have F97 : Fld Z h94 b72 "com/example/hueline/hueline/model/BigIntArray" "pages" "[[I" (.ref x9) := (FF.keep K94 (ninS ne_b72_x0 (ninS ne_b72_x1 nin0)))
      have F98 : Fld Z h94 b72 "com/example/hueline/hueline/model/BigIntArray" "layout" "Lcom/example/hueline/hueline/model/Pages;" (.ref b77) := (P90_0.keep K94 (ninS ne_b72_x0 (ninS ne_b72_x1 nin0)))
      have F99 : Exa Z h94 b77 "com/example/hueline/hueline/model/Pages" := (F91.keep K94)
      have F100 : Fld Z h94 b77 "com/example/hueline/hueline/model/Pages" "shift" "I" (.int (2 : Int32)) := (F92.keep K94 (ninS ne_b77_x0 (ninS ne_b77_x1 nin0)))
      have F101 : Fld Z h94 b77 "com/example/hueline/hueline/model/Pages" "mask" "I" (.int (3 : Int32)) := (F93.keep K94 (ninS ne_b77_x0 (ninS ne_b77_x1 nin0)))
      have F102 : Arv Z h94 x9 k9 (.array .int) (2 : Int32) [(.ref x0), (.ref x1)] .null := (V9.keep K94 (ninS nx9x0 (ninS nx9x1 nin0)))
      have F104 : Exa Z h94 b72 "com/example/hueline/hueline/model/BigIntArray" := (F95.keep K94)
      refine own_callV X94 hx hZ (y := (⟨"com/example/hueline/hueline/model/BigIntArray", "set", "(JI)V"⟩ : MethodName)) (z := (⟨"com/example/hueline/hueline/model/BigIntArray", "set", "(JI)V"⟩ : MethodName)) (W := 0) (a := b72) (argsL := [(.long jj), (.int p6)]) (rest := []) hown (hw _ (List.mem_of_getElem? (i := 49) rfl)) (hw _ (List.mem_of_getElem? (i := 50) rfl)) (notFace_of_selects (args := #[]) (mvT hZ (hw _ (List.mem_of_getElem? (i := 52) rfl)))) (hw _ (List.mem_of_getElem? (i := 52) rfl)) (hw _ (List.mem_of_getElem? (i := 51) rfl)) (by decide) (own_bk (rm_set2 l Z a0 hw b72 jj p6 b77 x9 k9 x0 k0 x1 k1 zl (own_upd own_z ii p5) h94 n0 F96 F97 F98 F99 F100 F101 F102 P94_0 P94_1 ⟨by omega, by omega⟩ ⟨by omega, by omega⟩ gx0 gx1 nx0x1 ne_b77_x0 ne_b77_x1) hZ (hw _ (List.mem_of_getElem? (i := 53) rfl)) (hw _ (List.mem_of_getElem? (i := 3) rfl)) (by decide) (by decide)) e94 F104 (g := (mkF m 106 #[.val (.int p1), .val (.long q2), .second, .val (.long q3), .second, .val (.long q4), .second, .val (.int p5), .val (.int p6), .val (.int (1 : Int32)), .val (.long nn), .second, .val (.long ii), .second, .val (.long jj), .second, .val (.long kk), .second, .val (.ref b72), .unset, .unset, .unset, .unset, .unset] [(.int p6), (.long jj), (.ref b72)])) rfl (by rw [hml]; rfl) (lenOf pd_6 rfl) rfl (by show 2 * 0 + _ ≤ _; exact Nat.le_of_eq rfl) (hb hby at_106) (by decide) (by decide) (fun v103 T103 h103 L103 X103 e103 q103 => ?_)
      obtain ⟨rfl, M103, K103, P103_0, P103_1⟩ := q103
      have N103 := Fr.app N94 M103
      show own_Run p e below Φ (T103.setTop (mkF m 109 #[.val (.int p1), .val (.long q2), .second, .val (.long q3), .second, .val (.long q4), .second, .val (.int p5), .val (.int p6), .val (.int (1 : Int32)), .val (.long nn), .second, .val (.long ii), .second, .val (.long jj), .second, .val (.long kk), .second, .val (.ref b72), .unset, .unset, .unset, .unset, .unset] []))
      refine own_go (fun t k => XS.aload X103.here hx rfl (hb hby at_109) rfl rfl  k) ?_
      refine own_go (fun t k => XS.lload X103.here hx rfl (hb hby at_111) rfl  k) ?_
      have F105 : Fld Z h103 b72 "com/example/hueline/hueline/model/BigIntArray" "flat" "[I" .null := (F96.keep K103 (ninS ne_b72_x0 (ninS ne_b72_x1 nin0)))
      have F106 : Fld Z h103 b72 "com/example/hueline/hueline/model/BigIntArray" "pages" "[[I" (.ref x9) := (F97.keep K103 (ninS ne_b72_x0 (ninS ne_b72_x1 nin0)))
      have F107 : Fld Z h103 b72 "com/example/hueline/hueline/model/BigIntArray" "layout" "Lcom/example/hueline/hueline/model/Pages;" (.ref b77) := (F98.keep K103 (ninS ne_b72_x0 (ninS ne_b72_x1 nin0)))
      have F108 : Exa Z h103 b77 "com/example/hueline/hueline/model/Pages" := (F99.keep K103)
      have F109 : Fld Z h103 b77 "com/example/hueline/hueline/model/Pages" "shift" "I" (.int (2 : Int32)) := (F100.keep K103 (ninS ne_b77_x0 (ninS ne_b77_x1 nin0)))
      have F110 : Fld Z h103 b77 "com/example/hueline/hueline/model/Pages" "mask" "I" (.int (3 : Int32)) := (F101.keep K103 (ninS ne_b77_x0 (ninS ne_b77_x1 nin0)))
      have F111 : Arv Z h103 x9 k9 (.array .int) (2 : Int32) [(.ref x0), (.ref x1)] .null := (F102.keep K103 (ninS nx9x0 (ninS nx9x1 nin0)))
      have F113 : Exa Z h103 b72 "com/example/hueline/hueline/model/BigIntArray" := (F104.keep K103)
      refine own_callV X103 hx hZ (y := (⟨"com/example/hueline/hueline/model/BigIntArray", "get", "(J)I"⟩ : MethodName)) (z := (⟨"com/example/hueline/hueline/model/BigIntArray", "get", "(J)I"⟩ : MethodName)) (W := 0) (a := b72) (argsL := [(.long ii)]) (rest := []) hown (hw _ (List.mem_of_getElem? (i := 54) rfl)) (hw _ (List.mem_of_getElem? (i := 55) rfl)) (notFace_of_selects (args := #[]) (mvT hZ (hw _ (List.mem_of_getElem? (i := 57) rfl)))) (hw _ (List.mem_of_getElem? (i := 57) rfl)) (hw _ (List.mem_of_getElem? (i := 56) rfl)) (by decide) (own_bk (rm_get2 l Z a0 hw b72 ii b77 x9 k9 x0 k0 x1 k1 zl (own_upd (own_upd own_z ii p5) jj p6) h103 n0 F105 F106 F107 F108 F109 F110 F111 P103_0 P103_1 ⟨by omega, by omega⟩ ⟨by omega, by omega⟩) hZ (hw _ (List.mem_of_getElem? (i := 58) rfl)) (hw _ (List.mem_of_getElem? (i := 3) rfl)) (by decide) (by decide)) e103 F113 (g := (mkF m 113 #[.val (.int p1), .val (.long q2), .second, .val (.long q3), .second, .val (.long q4), .second, .val (.int p5), .val (.int p6), .val (.int (1 : Int32)), .val (.long nn), .second, .val (.long ii), .second, .val (.long jj), .second, .val (.long kk), .second, .val (.ref b72), .unset, .unset, .unset, .unset, .unset] [(.long ii), (.ref b72)])) rfl (by rw [hml]; rfl) (lenOf pd_3 rfl) rfl (by show 2 * 0 + _ ≤ _; exact Nat.le_of_eq rfl) (hb hby at_113) (by decide) (by decide) (fun v112 T112 h112 L112 X112 e112 q112 => ?_)
      obtain ⟨rfl, M112, s112⟩ := q112
      replace e112 : T112.heap = h103 := e112.trans s112
      have N112 := Fr.app N103 M112
      refine own_go (fun t k => XS.istore X112.here hx rfl (hb hby at_116) rfl (l' := #[.val (.int p1), .val (.long q2), .second, .val (.long q3), .second, .val (.long q4), .second, .val (.int p5), .val (.int p6), .val (.int (1 : Int32)), .val (.long nn), .second, .val (.long ii), .second, .val (.long jj), .second, .val (.long kk), .second, .val (.ref b72), .val (.int ((own_upd (own_upd own_z ii p5) jj p6) ii)), .unset, .unset, .unset, .unset]) rfl k) ?_
      refine own_go (fun t k => XS.aload X112.here hx rfl (hb hby at_118) rfl rfl  k) ?_
      show own_Run p e below Φ (T112.setTop (mkF m 120 #[.val (.int p1), .val (.long q2), .second, .val (.long q3), .second, .val (.long q4), .second, .val (.int p5), .val (.int p6), .val (.int (1 : Int32)), .val (.long nn), .second, .val (.long ii), .second, .val (.long jj), .second, .val (.long kk), .second, .val (.ref b72), .val (.int ((own_upd (own_upd own_z ii p5) jj p6) ii)), .unset, .unset, .unset, .unset] [(.ref b72)]))
      refine own_go (fun t k => XS.lload X112.here hx rfl (hb hby at_120) rfl  k) ?_
      refine own_callV X112 hx hZ (y := (⟨"com/example/hueline/hueline/model/BigIntArray", "get", "(J)I"⟩ : MethodName)) (z := (⟨"com/example/hueline/hueline/model/BigIntArray", "get", "(J)I"⟩ : MethodName)) (W := 0) (a := b72) (argsL := [(.long jj)]) (rest := []) hown (hw _ (List.mem_of_getElem? (i := 54) rfl)) (hw _ (List.mem_of_getElem? (i := 55) rfl)) (notFace_of_selects (args := #[]) (mvT hZ (hw _ (List.mem_of_getElem? (i := 57) rfl)))) (hw _ (List.mem_of_getElem? (i := 57) rfl)) (hw _ (List.mem_of_getElem? (i := 56) rfl)) (by decide) (own_bk (rm_get2 l Z a0 hw b72 jj b77 x9 k9 x0 k0 x1 k1 zl (own_upd (own_upd own_z ii p5) jj p6) h103 n0 F105 F106 F107 F108 F109 F110 F111 P103_0 P103_1 ⟨by omega, by omega⟩ ⟨by omega, by omega⟩) hZ (hw _ (List.mem_of_getElem? (i := 58) rfl)) (hw _ (List.mem_of_getElem? (i := 3) rfl)) (by decide) (by decide)) e112 F113 (g := (mkF m 122 #[.val (.int p1), .val (.long q2), .second, .val (.long q3), .second, .val (.long q4), .second, .val (.int p5), .val (.int p6), .val (.int (1 : Int32)), .val (.long nn), .second, .val (.long ii), .second, .val (.long jj), .second, .val (.long kk), .second, .val (.ref b72), .val (.int ((own_upd (own_upd own_z ii p5) jj p6) ii)), .unset, .unset, .unset, .unset] [(.long jj), (.ref b72)])) rfl (by rw [hml]; rfl) (lenOf pd_3 rfl) rfl (by show 2 * 0 + _ ≤ _; exact Nat.le_of_eq rfl) (hb hby at_122) (by decide) (by decide) (fun v114 T114 h114 L114 X114 e114 q114 => ?_)
      obtain ⟨rfl, M114, s114⟩ := q114
      replace e114 : T114.heap = h103 := e114.trans s114
      have N114 := Fr.app N112 M114
      refine own_go (fun t k => XS.istore X114.here hx rfl (hb hby at_125) rfl (l' := #[.val (.int p1), .val (.long q2), .second, .val (.long q3), .second, .val (.long q4), .second, .val (.int p5), .val (.int p6), .val (.int (1 : Int32)), .val (.long nn), .second, .val (.long ii), .second, .val (.long jj), .second, .val (.long kk), .second, .val (.ref b72), .val (.int ((own_upd (own_upd own_z ii p5) jj p6) ii)), .val (.int ((own_upd (own_upd own_z ii p5) jj p6) jj)), .unset, .unset, .unset]) rfl k) ?_
      refine own_go (fun t k => XS.aload X114.here hx rfl (hb hby at_127) rfl rfl  k) ?_
      refine own_go (fun t k => XS.lload X114.here hx rfl (hb hby at_129) rfl  k) ?_
      show own_Run p e below Φ (T114.setTop (mkF m 131 #[.val (.int p1), .val (.long q2), .second, .val (.long q3), .second, .val (.long q4), .second, .val (.int p5), .val (.int p6), .val (.int (1 : Int32)), .val (.long nn), .second, .val (.long ii), .second, .val (.long jj), .second, .val (.long kk), .second, .val (.ref b72), .val (.int ((own_upd (own_upd own_z ii p5) jj p6) ii)), .val (.int ((own_upd (own_upd own_z ii p5) jj p6) jj)), .unset, .unset, .unset] [(.long kk), (.ref b72)]))
      refine own_callV X114 hx hZ (y := (⟨"com/example/hueline/hueline/model/BigIntArray", "get", "(J)I"⟩ : MethodName)) (z := (⟨"com/example/hueline/hueline/model/BigIntArray", "get", "(J)I"⟩ : MethodName)) (W := 0) (a := b72) (argsL := [(.long kk)]) (rest := []) hown (hw _ (List.mem_of_getElem? (i := 54) rfl)) (hw _ (List.mem_of_getElem? (i := 55) rfl)) (notFace_of_selects (args := #[]) (mvT hZ (hw _ (List.mem_of_getElem? (i := 57) rfl)))) (hw _ (List.mem_of_getElem? (i := 57) rfl)) (hw _ (List.mem_of_getElem? (i := 56) rfl)) (by decide) (own_bk (rm_get2 l Z a0 hw b72 kk b77 x9 k9 x0 k0 x1 k1 zl (own_upd (own_upd own_z ii p5) jj p6) h103 n0 F105 F106 F107 F108 F109 F110 F111 P103_0 P103_1 ⟨by omega, by omega⟩ ⟨by omega, by omega⟩) hZ (hw _ (List.mem_of_getElem? (i := 58) rfl)) (hw _ (List.mem_of_getElem? (i := 3) rfl)) (by decide) (by decide)) e114 F113 (g := (mkF m 131 #[.val (.int p1), .val (.long q2), .second, .val (.long q3), .second, .val (.long q4), .second, .val (.int p5), .val (.int p6), .val (.int (1 : Int32)), .val (.long nn), .second, .val (.long ii), .second, .val (.long jj), .second, .val (.long kk), .second, .val (.ref b72), .val (.int ((own_upd (own_upd own_z ii p5) jj p6) ii)), .val (.int ((own_upd (own_upd own_z ii p5) jj p6) jj)), .unset, .unset, .unset] [(.long kk), (.ref b72)])) rfl (by rw [hml]; rfl) (lenOf pd_3 rfl) rfl (by show 2 * 0 + _ ≤ _; exact Nat.le_of_eq rfl) (hb hby at_131) (by decide) (by decide) (fun v115 T115 h115 L115 X115 e115 q115 => ?_)
      obtain ⟨rfl, M115, s115⟩ := q115
      replace e115 : T115.heap = h103 := e115.trans s115
      have N115 := Fr.app N114 M115
      refine own_go (fun t k => XS.istore X115.here hx rfl (hb hby at_134) rfl (l' := #[.val (.int p1), .val (.long q2), .second, .val (.long q3), .second, .val (.long q4), .second, .val (.int p5), .val (.int p6), .val (.int (1 : Int32)), .val (.long nn), .second, .val (.long ii), .second, .val (.long jj), .second, .val (.long kk), .second, .val (.ref b72), .val (.int ((own_upd (own_upd own_z ii p5) jj p6) ii)), .val (.int ((own_upd (own_upd own_z ii p5) jj p6) jj)), .val (.int ((own_upd (own_upd own_z ii p5) jj p6) kk)), .unset, .unset]) rfl k) ?_
      refine own_go (fun t k => XS.lload X115.here hx rfl (hb hby at_136) rfl  k) ?_
      refine own_go (fun t k => XS.lload X115.here hx rfl (hb hby at_138) rfl  k) ?_
      refine own_go (fun t k => XS.lcmp X115.here hx rfl (hb hby at_140) rfl k) ?_
      show own_Run p e below Φ (T115.setTop (mkF m 141 #[.val (.int p1), .val (.long q2), .second, .val (.long q3), .second, .val (.long q4), .second, .val (.int p5), .val (.int p6), .val (.int (1 : Int32)), .val (.long nn), .second, .val (.long ii), .second, .val (.long jj), .second, .val (.long kk), .second, .val (.ref b72), .val (.int ((own_upd (own_upd own_z ii p5) jj p6) ii)), .val (.int ((own_upd (own_upd own_z ii p5) jj p6) jj)), .val (.int ((own_upd (own_upd own_z ii p5) jj p6) kk)), .unset, .unset] [(.int (lcmpW ii jj))]))
      by_cases hc141 : (lcmpW ii jj) = (0 : Int32)
      · refine own_go (fun t k => XS.ifNo X115.here hx rfl (hb hby at_141) rfl ((if0 _ _).trans (teq hc141).2) k) ?_
        refine own_go (fun t k => XS.iload X115.here hx rfl (hb hby at_144) rfl  k) ?_
        refine own_go (fun t k => XS.goto X115.here hx rfl (pc0 := 146) (pc' := 151) rfl (hb hby at_146) (by decide) (by decide) k) ?_
        refine own_go (fun t k => XS.istore X115.here hx rfl (hb hby at_151) rfl (l' := #[.val (.int p1), .val (.long q2), .second, .val (.long q3), .second, .val (.long q4), .second, .val (.int p5), .val (.int p6), .val (.int (1 : Int32)), .val (.long nn), .second, .val (.long ii), .second, .val (.long jj), .second, .val (.long kk), .second, .val (.ref b72), .val (.int ((own_upd (own_upd own_z ii p5) jj p6) ii)), .val (.int ((own_upd (own_upd own_z ii p5) jj p6) jj)), .val (.int ((own_upd (own_upd own_z ii p5) jj p6) kk)), .val (.int p6), .unset]) rfl k) ?_
        refine own_go (fun t k => XS.lload X115.here hx rfl (hb hby at_153) rfl  k) ?_
        show own_Run p e below Φ (T115.setTop (mkF m 155 #[.val (.int p1), .val (.long q2), .second, .val (.long q3), .second, .val (.long q4), .second, .val (.int p5), .val (.int p6), .val (.int (1 : Int32)), .val (.long nn), .second, .val (.long ii), .second, .val (.long jj), .second, .val (.long kk), .second, .val (.ref b72), .val (.int ((own_upd (own_upd own_z ii p5) jj p6) ii)), .val (.int ((own_upd (own_upd own_z ii p5) jj p6) jj)), .val (.int ((own_upd (own_upd own_z ii p5) jj p6) kk)), .val (.int p6), .unset] [(.long kk)]))
        refine own_go (fun t k => XS.lload X115.here hx rfl (hb hby at_155) rfl  k) ?_
        refine own_go (fun t k => XS.lcmp X115.here hx rfl (hb hby at_157) rfl k) ?_
        by_cases hc158 : (lcmpW kk jj) = (0 : Int32)
        · refine own_go (fun t k => XS.ifNo X115.here hx rfl (hb hby at_158) rfl ((if0 _ _).trans (teq hc158).2) k) ?_
          refine own_go (fun t k => XS.iload X115.here hx rfl (hb hby at_161) rfl  k) ?_
          refine own_go (fun t k => XS.istore X115.here hx rfl (hb hby at_163) rfl (l' := #[.val (.int p1), .val (.long q2), .second, .val (.long q3), .second, .val (.long q4), .second, .val (.int p5), .val (.int p6), .val (.int (1 : Int32)), .val (.long nn), .second, .val (.long ii), .second, .val (.long jj), .second, .val (.long kk), .second, .val (.ref b72), .val (.int ((own_upd (own_upd own_z ii p5) jj p6) ii)), .val (.int ((own_upd (own_upd own_z ii p5) jj p6) jj)), .val (.int ((own_upd (own_upd own_z ii p5) jj p6) kk)), .val (.int p6), .val (.int p6)]) rfl k) ?_
          show own_Run p e below Φ (T115.setTop (mkF m 165 #[.val (.int p1), .val (.long q2), .second, .val (.long q3), .second, .val (.long q4), .second, .val (.int p5), .val (.int p6), .val (.int (1 : Int32)), .val (.long nn), .second, .val (.long ii), .second, .val (.long jj), .second, .val (.long kk), .second, .val (.ref b72), .val (.int ((own_upd (own_upd own_z ii p5) jj p6) ii)), .val (.int ((own_upd (own_upd own_z ii p5) jj p6) jj)), .val (.int ((own_upd (own_upd own_z ii p5) jj p6) kk)), .val (.int p6), .val (.int p6)] []))
          refine own_go (fun t k => XS.goto X115.here hx rfl (pc0 := 165) (pc' := 186) rfl (hb hby at_165) (by decide) (by decide) k) ?_
          refine own_go (fun t k => XS.iload X115.here hx rfl (hb hby at_186) rfl  k) ?_
          refine own_go (fun t k => XS.iload X115.here hx rfl (hb hby at_188) rfl  k) ?_
          have hc190 : ((own_upd (own_upd own_z ii p5) jj p6) ii) = p6 := (own_u1 hc141)
          refine own_go (fun t k => XS.icmpNo X115.here hx rfl (hb hby at_190) rfl (teq hc190).2 k) ?_
          refine own_go (fun t k => XS.iload X115.here hx rfl (hb hby at_193) rfl  k) ?_
          show own_Run p e below Φ (T115.setTop (mkF m 195 #[.val (.int p1), .val (.long q2), .second, .val (.long q3), .second, .val (.long q4), .second, .val (.int p5), .val (.int p6), .val (.int (1 : Int32)), .val (.long nn), .second, .val (.long ii), .second, .val (.long jj), .second, .val (.long kk), .second, .val (.ref b72), .val (.int ((own_upd (own_upd own_z ii p5) jj p6) ii)), .val (.int ((own_upd (own_upd own_z ii p5) jj p6) jj)), .val (.int ((own_upd (own_upd own_z ii p5) jj p6) kk)), .val (.int p6), .val (.int p6)] [(.int ((own_upd (own_upd own_z ii p5) jj p6) jj))]))
          refine own_go (fun t k => XS.iload X115.here hx rfl (hb hby at_195) rfl  k) ?_
          have hc197 : ((own_upd (own_upd own_z ii p5) jj p6) jj) = p6 := own_u1'
          refine own_go (fun t k => XS.icmpNo X115.here hx rfl (hb hby at_197) rfl (teq hc197).2 k) ?_
          refine own_go (fun t k => XS.iload X115.here hx rfl (hb hby at_200) rfl  k) ?_
          refine own_go (fun t k => XS.iload X115.here hx rfl (hb hby at_202) rfl  k) ?_
          have hc204 : ((own_upd (own_upd own_z ii p5) jj p6) kk) = p6 := (own_u1 hc158)
          refine own_go (fun t k => XS.icmpNo X115.here hx rfl (hb hby at_204) rfl (teq hc204).2 k) ?_
          show own_Run p e below Φ (T115.setTop (mkF m 207 #[.val (.int p1), .val (.long q2), .second, .val (.long q3), .second, .val (.long q4), .second, .val (.int p5), .val (.int p6), .val (.int (1 : Int32)), .val (.long nn), .second, .val (.long ii), .second, .val (.long jj), .second, .val (.long kk), .second, .val (.ref b72), .val (.int ((own_upd (own_upd own_z ii p5) jj p6) ii)), .val (.int ((own_upd (own_upd own_z ii p5) jj p6) jj)), .val (.int ((own_upd (own_upd own_z ii p5) jj p6) kk)), .val (.int p6), .val (.int p6)] []))
          refine own_go (fun t k => XS.aload X115.here hx rfl (hb hby at_207) rfl rfl  k) ?_
          have F116 : Fld Z h103 b72 "com/example/hueline/hueline/model/BigIntArray" "length" "J" (.long nn) := ((P90_1.keep K94 (ninS ne_b72_x0 (ninS ne_b72_x1 nin0))).keep K103 (ninS ne_b72_x0 (ninS ne_b72_x1 nin0)))
          refine own_callV X115 hx hZ (y := (⟨"com/example/hueline/hueline/model/BigIntArray", "length", "()J"⟩ : MethodName)) (z := (⟨"com/example/hueline/hueline/model/BigIntArray", "length", "()J"⟩ : MethodName)) (W := 0) (a := b72) (argsL := []) (rest := []) hown (hw _ (List.mem_of_getElem? (i := 59) rfl)) (hw _ (List.mem_of_getElem? (i := 60) rfl)) (notFace_of_selects (args := #[]) (mvT hZ (hw _ (List.mem_of_getElem? (i := 62) rfl)))) (hw _ (List.mem_of_getElem? (i := 62) rfl)) (hw _ (List.mem_of_getElem? (i := 61) rfl)) (by decide) (own_bk (rm_ln l Z a0 hw b72 nn h103 n0 F116) hZ (hw _ (List.mem_of_getElem? (i := 63) rfl)) (hw _ (List.mem_of_getElem? (i := 3) rfl)) (by decide) (by decide)) e115 F113 (g := (mkF m 209 #[.val (.int p1), .val (.long q2), .second, .val (.long q3), .second, .val (.long q4), .second, .val (.int p5), .val (.int p6), .val (.int (1 : Int32)), .val (.long nn), .second, .val (.long ii), .second, .val (.long jj), .second, .val (.long kk), .second, .val (.ref b72), .val (.int ((own_upd (own_upd own_z ii p5) jj p6) ii)), .val (.int ((own_upd (own_upd own_z ii p5) jj p6) jj)), .val (.int ((own_upd (own_upd own_z ii p5) jj p6) kk)), .val (.int p6), .val (.int p6)] [(.ref b72)])) rfl (by rw [hml]; rfl) (lenOf pd_7 rfl) rfl (by show 2 * 0 + _ ≤ _; exact Nat.le_of_eq rfl) (hb hby at_209) (by decide) (by decide) (fun v117 T117 h117 L117 X117 e117 q117 => ?_)
          obtain ⟨rfl, M117, s117⟩ := q117
          replace e117 : T117.heap = h103 := e117.trans s117
          have N117 := Fr.app N115 M117
          refine own_go (fun t k => XS.lload X117.here hx rfl (hb hby at_212) rfl  k) ?_
          refine own_go (fun t k => XS.lcmp X117.here hx rfl (hb hby at_214) rfl k) ?_
          have hc215 : (lcmpW nn nn) = (0 : Int32) := ((lw_eq _ _).mpr rfl)
          refine own_go (fun t k => XS.ifNo X117.here hx rfl (hb hby at_215) rfl ((if0 _ _).trans (teq hc215).2) k) ?_
          show own_Run p e below Φ (T117.setTop (mkF m 218 #[.val (.int p1), .val (.long q2), .second, .val (.long q3), .second, .val (.long q4), .second, .val (.int p5), .val (.int p6), .val (.int (1 : Int32)), .val (.long nn), .second, .val (.long ii), .second, .val (.long jj), .second, .val (.long kk), .second, .val (.ref b72), .val (.int ((own_upd (own_upd own_z ii p5) jj p6) ii)), .val (.int ((own_upd (own_upd own_z ii p5) jj p6) jj)), .val (.int ((own_upd (own_upd own_z ii p5) jj p6) kk)), .val (.int p6), .val (.int p6)] []))
          refine own_go (fun t k => XS.iconst X117.here hx rfl (hb hby at_218) k) ?_
          refine own_go (fun t k => XS.goto X117.here hx rfl (pc0 := 219) (pc' := 223) rfl (hb hby at_219) (by decide) (by decide) k) ?_
          subst hΦ
          exact own_retN X117 hx (t := .boolean) Bd.returns (by simp) hlk (hb hby at_223) e117 ⟨rfl, N117⟩ (by decide) (by decide)
        · refine own_go (fun t k => XS.ifYes X115.here hx rfl (pc0 := 158) (pc' := 168) rfl (hb hby at_158) rfl ((if0 _ _).trans (feq hc158).2) (by decide) (by decide) k) ?_
          refine own_go (fun t k => XS.lload X115.here hx rfl (hb hby at_168) rfl  k) ?_
          refine own_go (fun t k => XS.lload X115.here hx rfl (hb hby at_170) rfl  k) ?_
          show own_Run p e below Φ (T115.setTop (mkF m 172 #[.val (.int p1), .val (.long q2), .second, .val (.long q3), .second, .val (.long q4), .second, .val (.int p5), .val (.int p6), .val (.int (1 : Int32)), .val (.long nn), .second, .val (.long ii), .second, .val (.long jj), .second, .val (.long kk), .second, .val (.ref b72), .val (.int ((own_upd (own_upd own_z ii p5) jj p6) ii)), .val (.int ((own_upd (own_upd own_z ii p5) jj p6) jj)), .val (.int ((own_upd (own_upd own_z ii p5) jj p6) kk)), .val (.int p6), .unset] [(.long ii), (.long kk)]))
          refine own_go (fun t k => XS.lcmp X115.here hx rfl (hb hby at_172) rfl k) ?_
          by_cases hc173 : (lcmpW kk ii) = (0 : Int32)
          · refine own_go (fun t k => XS.ifNo X115.here hx rfl (hb hby at_173) rfl ((if0 _ _).trans (teq hc173).2) k) ?_
            refine own_go (fun t k => XS.iload X115.here hx rfl (hb hby at_176) rfl  k) ?_
            refine own_go (fun t k => XS.istore X115.here hx rfl (hb hby at_178) rfl (l' := #[.val (.int p1), .val (.long q2), .second, .val (.long q3), .second, .val (.long q4), .second, .val (.int p5), .val (.int p6), .val (.int (1 : Int32)), .val (.long nn), .second, .val (.long ii), .second, .val (.long jj), .second, .val (.long kk), .second, .val (.ref b72), .val (.int ((own_upd (own_upd own_z ii p5) jj p6) ii)), .val (.int ((own_upd (own_upd own_z ii p5) jj p6) jj)), .val (.int ((own_upd (own_upd own_z ii p5) jj p6) kk)), .val (.int p6), .val (.int p5)]) rfl k) ?_
            refine own_go (fun t k => XS.goto X115.here hx rfl (pc0 := 180) (pc' := 186) rfl (hb hby at_180) (by decide) (by decide) k) ?_
            show own_Run p e below Φ (T115.setTop (mkF m 186 #[.val (.int p1), .val (.long q2), .second, .val (.long q3), .second, .val (.long q4), .second, .val (.int p5), .val (.int p6), .val (.int (1 : Int32)), .val (.long nn), .second, .val (.long ii), .second, .val (.long jj), .second, .val (.long kk), .second, .val (.ref b72), .val (.int ((own_upd (own_upd own_z ii p5) jj p6) ii)), .val (.int ((own_upd (own_upd own_z ii p5) jj p6) jj)), .val (.int ((own_upd (own_upd own_z ii p5) jj p6) kk)), .val (.int p6), .val (.int p5)] []))
            refine own_go (fun t k => XS.iload X115.here hx rfl (hb hby at_186) rfl  k) ?_
            refine own_go (fun t k => XS.iload X115.here hx rfl (hb hby at_188) rfl  k) ?_
            have hc190 : ((own_upd (own_upd own_z ii p5) jj p6) ii) = p6 := (own_u1 hc141)
            refine own_go (fun t k => XS.icmpNo X115.here hx rfl (hb hby at_190) rfl (teq hc190).2 k) ?_
            refine own_go (fun t k => XS.iload X115.here hx rfl (hb hby at_193) rfl  k) ?_
            refine own_go (fun t k => XS.iload X115.here hx rfl (hb hby at_195) rfl  k) ?_
            show own_Run p e below Φ (T115.setTop (mkF m 197 #[.val (.int p1), .val (.long q2), .second, .val (.long q3), .second, .val (.long q4), .second, .val (.int p5), .val (.int p6), .val (.int (1 : Int32)), .val (.long nn), .second, .val (.long ii), .second, .val (.long jj), .second, .val (.long kk), .second, .val (.ref b72), .val (.int ((own_upd (own_upd own_z ii p5) jj p6) ii)), .val (.int ((own_upd (own_upd own_z ii p5) jj p6) jj)), .val (.int ((own_upd (own_upd own_z ii p5) jj p6) kk)), .val (.int p6), .val (.int p5)] [(.int p6), (.int ((own_upd (own_upd own_z ii p5) jj p6) jj))]))
            have hc197 : ((own_upd (own_upd own_z ii p5) jj p6) jj) = p6 := own_u1'
            refine own_go (fun t k => XS.icmpNo X115.here hx rfl (hb hby at_197) rfl (teq hc197).2 k) ?_
            refine own_go (fun t k => XS.iload X115.here hx rfl (hb hby at_200) rfl  k) ?_
            refine own_go (fun t k => XS.iload X115.here hx rfl (hb hby at_202) rfl  k) ?_
            have hc204 : ((own_upd (own_upd own_z ii p5) jj p6) kk) = p5 := ((own_u2 hc158).trans (own_u1 hc173))
            refine own_go (fun t k => XS.icmpNo X115.here hx rfl (hb hby at_204) rfl (teq hc204).2 k) ?_
            refine own_go (fun t k => XS.aload X115.here hx rfl (hb hby at_207) rfl rfl  k) ?_
            show own_Run p e below Φ (T115.setTop (mkF m 209 #[.val (.int p1), .val (.long q2), .second, .val (.long q3), .second, .val (.long q4), .second, .val (.int p5), .val (.int p6), .val (.int (1 : Int32)), .val (.long nn), .second, .val (.long ii), .second, .val (.long jj), .second, .val (.long kk), .second, .val (.ref b72), .val (.int ((own_upd (own_upd own_z ii p5) jj p6) ii)), .val (.int ((own_upd (own_upd own_z ii p5) jj p6) jj)), .val (.int ((own_upd (own_upd own_z ii p5) jj p6) kk)), .val (.int p6), .val (.int p5)] [(.ref b72)]))
            have F118 : Fld Z h103 b72 "com/example/hueline/hueline/model/BigIntArray" "length" "J" (.long nn) := ((P90_1.keep K94 (ninS ne_b72_x0 (ninS ne_b72_x1 nin0))).keep K103 (ninS ne_b72_x0 (ninS ne_b72_x1 nin0)))
            refine own_callV X115 hx hZ (y := (⟨"com/example/hueline/hueline/model/BigIntArray", "length", "()J"⟩ : MethodName)) (z := (⟨"com/example/hueline/hueline/model/BigIntArray", "length", "()J"⟩ : MethodName)) (W := 0) (a := b72) (argsL := []) (rest := []) hown (hw _ (List.mem_of_getElem? (i := 59) rfl)) (hw _ (List.mem_of_getElem? (i := 60) rfl)) (notFace_of_selects (args := #[]) (mvT hZ (hw _ (List.mem_of_getElem? (i := 62) rfl)))) (hw _ (List.mem_of_getElem? (i := 62) rfl)) (hw _ (List.mem_of_getElem? (i := 61) rfl)) (by decide) (own_bk (rm_ln l Z a0 hw b72 nn h103 n0 F118) hZ (hw _ (List.mem_of_getElem? (i := 63) rfl)) (hw _ (List.mem_of_getElem? (i := 3) rfl)) (by decide) (by decide)) e115 F113 (g := (mkF m 209 #[.val (.int p1), .val (.long q2), .second, .val (.long q3), .second, .val (.long q4), .second, .val (.int p5), .val (.int p6), .val (.int (1 : Int32)), .val (.long nn), .second, .val (.long ii), .second, .val (.long jj), .second, .val (.long kk), .second, .val (.ref b72), .val (.int ((own_upd (own_upd own_z ii p5) jj p6) ii)), .val (.int ((own_upd (own_upd own_z ii p5) jj p6) jj)), .val (.int ((own_upd (own_upd own_z ii p5) jj p6) kk)), .val (.int p6), .val (.int p5)] [(.ref b72)])) rfl (by rw [hml]; rfl) (lenOf pd_7 rfl) rfl (by show 2 * 0 + _ ≤ _; exact Nat.le_of_eq rfl) (hb hby at_209) (by decide) (by decide) (fun v119 T119 h119 L119 X119 e119 q119 => ?_)
            obtain ⟨rfl, M119, s119⟩ := q119
            replace e119 : T119.heap = h103 := e119.trans s119
            have N119 := Fr.app N115 M119
            refine own_go (fun t k => XS.lload X119.here hx rfl (hb hby at_212) rfl  k) ?_
            refine own_go (fun t k => XS.lcmp X119.here hx rfl (hb hby at_214) rfl k) ?_
            have hc215 : (lcmpW nn nn) = (0 : Int32) := ((lw_eq _ _).mpr rfl)
            refine own_go (fun t k => XS.ifNo X119.here hx rfl (hb hby at_215) rfl ((if0 _ _).trans (teq hc215).2) k) ?_
            refine own_go (fun t k => XS.iconst X119.here hx rfl (hb hby at_218) k) ?_
            show own_Run p e below Φ (T119.setTop (mkF m 219 #[.val (.int p1), .val (.long q2), .second, .val (.long q3), .second, .val (.long q4), .second, .val (.int p5), .val (.int p6), .val (.int (1 : Int32)), .val (.long nn), .second, .val (.long ii), .second, .val (.long jj), .second, .val (.long kk), .second, .val (.ref b72), .val (.int ((own_upd (own_upd own_z ii p5) jj p6) ii)), .val (.int ((own_upd (own_upd own_z ii p5) jj p6) jj)), .val (.int ((own_upd (own_upd own_z ii p5) jj p6) kk)), .val (.int p6), .val (.int p5)] [(.int (1 : Int32))]))
            refine own_go (fun t k => XS.goto X119.here hx rfl (pc0 := 219) (pc' := 223) rfl (hb hby at_219) (by decide) (by decide) k) ?_
            subst hΦ
            exact own_retN X119 hx (t := .boolean) Bd.returns (by simp) hlk (hb hby at_223) e119 ⟨rfl, N119⟩ (by decide) (by decide)
          · refine own_go (fun t k => XS.ifYes X115.here hx rfl (pc0 := 173) (pc' := 183) rfl (hb hby at_173) rfl ((if0 _ _).trans (feq hc173).2) (by decide) (by decide) k) ?_
            refine own_go (fun t k => XS.iconst X115.here hx rfl (hb hby at_183) k) ?_
            refine own_go (fun t k => XS.istore X115.here hx rfl (hb hby at_184) rfl (l' := #[.val (.int p1), .val (.long q2), .second, .val (.long q3), .second, .val (.long q4), .second, .val (.int p5), .val (.int p6), .val (.int (1 : Int32)), .val (.long nn), .second, .val (.long ii), .second, .val (.long jj), .second, .val (.long kk), .second, .val (.ref b72), .val (.int ((own_upd (own_upd own_z ii p5) jj p6) ii)), .val (.int ((own_upd (own_upd own_z ii p5) jj p6) jj)), .val (.int ((own_upd (own_upd own_z ii p5) jj p6) kk)), .val (.int p6), .val (.int (0 : Int32))]) rfl k) ?_
            refine own_go (fun t k => XS.iload X115.here hx rfl (hb hby at_186) rfl  k) ?_
            show own_Run p e below Φ (T115.setTop (mkF m 188 #[.val (.int p1), .val (.long q2), .second, .val (.long q3), .second, .val (.long q4), .second, .val (.int p5), .val (.int p6), .val (.int (1 : Int32)), .val (.long nn), .second, .val (.long ii), .second, .val (.long jj), .second, .val (.long kk), .second, .val (.ref b72), .val (.int ((own_upd (own_upd own_z ii p5) jj p6) ii)), .val (.int ((own_upd (own_upd own_z ii p5) jj p6) jj)), .val (.int ((own_upd (own_upd own_z ii p5) jj p6) kk)), .val (.int p6), .val (.int (0 : Int32))] [(.int ((own_upd (own_upd own_z ii p5) jj p6) ii))]))
            refine own_go (fun t k => XS.iload X115.here hx rfl (hb hby at_188) rfl  k) ?_
            have hc190 : ((own_upd (own_upd own_z ii p5) jj p6) ii) = p6 := (own_u1 hc141)
            refine own_go (fun t k => XS.icmpNo X115.here hx rfl (hb hby at_190) rfl (teq hc190).2 k) ?_
            refine own_go (fun t k => XS.iload X115.here hx rfl (hb hby at_193) rfl  k) ?_
            refine own_go (fun t k => XS.iload X115.here hx rfl (hb hby at_195) rfl  k) ?_
            have hc197 : ((own_upd (own_upd own_z ii p5) jj p6) jj) = p6 := own_u1'
            refine own_go (fun t k => XS.icmpNo X115.here hx rfl (hb hby at_197) rfl (teq hc197).2 k) ?_
            show own_Run p e below Φ (T115.setTop (mkF m 200 #[.val (.int p1), .val (.long q2), .second, .val (.long q3), .second, .val (.long q4), .second, .val (.int p5), .val (.int p6), .val (.int (1 : Int32)), .val (.long nn), .second, .val (.long ii), .second, .val (.long jj), .second, .val (.long kk), .second, .val (.ref b72), .val (.int ((own_upd (own_upd own_z ii p5) jj p6) ii)), .val (.int ((own_upd (own_upd own_z ii p5) jj p6) jj)), .val (.int ((own_upd (own_upd own_z ii p5) jj p6) kk)), .val (.int p6), .val (.int (0 : Int32))] []))
            refine own_go (fun t k => XS.iload X115.here hx rfl (hb hby at_200) rfl  k) ?_
            refine own_go (fun t k => XS.iload X115.here hx rfl (hb hby at_202) rfl  k) ?_
            have hc204 : ((own_upd (own_upd own_z ii p5) jj p6) kk) = (0 : Int32) := ((own_u2 hc158).trans (own_u2 hc173))
            refine own_go (fun t k => XS.icmpNo X115.here hx rfl (hb hby at_204) rfl (teq hc204).2 k) ?_
            refine own_go (fun t k => XS.aload X115.here hx rfl (hb hby at_207) rfl rfl  k) ?_
            have F120 : Fld Z h103 b72 "com/example/hueline/hueline/model/BigIntArray" "length" "J" (.long nn) := ((P90_1.keep K94 (ninS ne_b72_x0 (ninS ne_b72_x1 nin0))).keep K103 (ninS ne_b72_x0 (ninS ne_b72_x1 nin0)))
            refine own_callV X115 hx hZ (y := (⟨"com/example/hueline/hueline/model/BigIntArray", "length", "()J"⟩ : MethodName)) (z := (⟨"com/example/hueline/hueline/model/BigIntArray", "length", "()J"⟩ : MethodName)) (W := 0) (a := b72) (argsL := []) (rest := []) hown (hw _ (List.mem_of_getElem? (i := 59) rfl)) (hw _ (List.mem_of_getElem? (i := 60) rfl)) (notFace_of_selects (args := #[]) (mvT hZ (hw _ (List.mem_of_getElem? (i := 62) rfl)))) (hw _ (List.mem_of_getElem? (i := 62) rfl)) (hw _ (List.mem_of_getElem? (i := 61) rfl)) (by decide) (own_bk (rm_ln l Z a0 hw b72 nn h103 n0 F120) hZ (hw _ (List.mem_of_getElem? (i := 63) rfl)) (hw _ (List.mem_of_getElem? (i := 3) rfl)) (by decide) (by decide)) e115 F113 (g := (mkF m 209 #[.val (.int p1), .val (.long q2), .second, .val (.long q3), .second, .val (.long q4), .second, .val (.int p5), .val (.int p6), .val (.int (1 : Int32)), .val (.long nn), .second, .val (.long ii), .second, .val (.long jj), .second, .val (.long kk), .second, .val (.ref b72), .val (.int ((own_upd (own_upd own_z ii p5) jj p6) ii)), .val (.int ((own_upd (own_upd own_z ii p5) jj p6) jj)), .val (.int ((own_upd (own_upd own_z ii p5) jj p6) kk)), .val (.int p6), .val (.int (0 : Int32))] [(.ref b72)])) rfl (by rw [hml]; rfl) (lenOf pd_7 rfl) rfl (by show 2 * 0 + _ ≤ _; exact Nat.le_of_eq rfl) (hb hby at_209) (by decide) (by decide) (fun v121 T121 h121 L121 X121 e121 q121 => ?_)
            obtain ⟨rfl, M121, s121⟩ := q121
            replace e121 : T121.heap = h103 := e121.trans s121
            have N121 := Fr.app N115 M121
            show own_Run p e below Φ (T121.setTop (mkF m 212 #[.val (.int p1), .val (.long q2), .second, .val (.long q3), .second, .val (.long q4), .second, .val (.int p5), .val (.int p6), .val (.int (1 : Int32)), .val (.long nn), .second, .val (.long ii), .second, .val (.long jj), .second, .val (.long kk), .second, .val (.ref b72), .val (.int ((own_upd (own_upd own_z ii p5) jj p6) ii)), .val (.int ((own_upd (own_upd own_z ii p5) jj p6) jj)), .val (.int ((own_upd (own_upd own_z ii p5) jj p6) kk)), .val (.int p6), .val (.int (0 : Int32))] [(.long nn)]))
            refine own_go (fun t k => XS.lload X121.here hx rfl (hb hby at_212) rfl  k) ?_
            refine own_go (fun t k => XS.lcmp X121.here hx rfl (hb hby at_214) rfl k) ?_
            have hc215 : (lcmpW nn nn) = (0 : Int32) := ((lw_eq _ _).mpr rfl)
            refine own_go (fun t k => XS.ifNo X121.here hx rfl (hb hby at_215) rfl ((if0 _ _).trans (teq hc215).2) k) ?_
            refine own_go (fun t k => XS.iconst X121.here hx rfl (hb hby at_218) k) ?_
            refine own_go (fun t k => XS.goto X121.here hx rfl (pc0 := 219) (pc' := 223) rfl (hb hby at_219) (by decide) (by decide) k) ?_
            show own_Run p e below Φ (T121.setTop (mkF m 223 #[.val (.int p1), .val (.long q2), .second, .val (.long q3), .second, .val (.long q4), .second, .val (.int p5), .val (.int p6), .val (.int (1 : Int32)), .val (.long nn), .second, .val (.long ii), .second, .val (.long jj), .second, .val (.long kk), .second, .val (.ref b72), .val (.int ((own_upd (own_upd own_z ii p5) jj p6) ii)), .val (.int ((own_upd (own_upd own_z ii p5) jj p6) jj)), .val (.int ((own_upd (own_upd own_z ii p5) jj p6) kk)), .val (.int p6), .val (.int (0 : Int32))] [(.int (1 : Int32))]))
            subst hΦ
            exact own_retN X121 hx (t := .boolean) Bd.returns (by simp) hlk (hb hby at_223) e121 ⟨rfl, N121⟩ (by decide) (by decide)
      · refine own_go (fun t k => XS.ifYes X115.here hx rfl (pc0 := 141) (pc' := 149) rfl (hb hby at_141) rfl ((if0 _ _).trans (feq hc141).2) (by decide) (by decide) k) ?_
        refine own_go (fun t k => XS.iload X115.here hx rfl (hb hby at_149) rfl  k) ?_
        refine own_go (fun t k => XS.istore X115.here hx rfl (hb hby at_151) rfl (l' := #[.val (.int p1), .val (.long q2), .second, .val (.long q3), .second, .val (.long q4), .second, .val (.int p5), .val (.int p6), .val (.int (1 : Int32)), .val (.long nn), .second, .val (.long ii), .second, .val (.long jj), .second, .val (.long kk), .second, .val (.ref b72), .val (.int ((own_upd (own_upd own_z ii p5) jj p6) ii)), .val (.int ((own_upd (own_upd own_z ii p5) jj p6) jj)), .val (.int ((own_upd (own_upd own_z ii p5) jj p6) kk)), .val (.int p5), .unset]) rfl k) ?_
        refine own_go (fun t k => XS.lload X115.here hx rfl (hb hby at_153) rfl  k) ?_
        refine own_go (fun t k => XS.lload X115.here hx rfl (hb hby at_155) rfl  k) ?_
        show own_Run p e below Φ (T115.setTop (mkF m 157 #[.val (.int p1), .val (.long q2), .second, .val (.long q3), .second, .val (.long q4), .second, .val (.int p5), .val (.int p6), .val (.int (1 : Int32)), .val (.long nn), .second, .val (.long ii), .second, .val (.long jj), .second, .val (.long kk), .second, .val (.ref b72), .val (.int ((own_upd (own_upd own_z ii p5) jj p6) ii)), .val (.int ((own_upd (own_upd own_z ii p5) jj p6) jj)), .val (.int ((own_upd (own_upd own_z ii p5) jj p6) kk)), .val (.int p5), .unset] [(.long jj), (.long kk)]))
        refine own_go (fun t k => XS.lcmp X115.here hx rfl (hb hby at_157) rfl k) ?_
        by_cases hc158 : (lcmpW kk jj) = (0 : Int32)
        · refine own_go (fun t k => XS.ifNo X115.here hx rfl (hb hby at_158) rfl ((if0 _ _).trans (teq hc158).2) k) ?_
          refine own_go (fun t k => XS.iload X115.here hx rfl (hb hby at_161) rfl  k) ?_
          refine own_go (fun t k => XS.istore X115.here hx rfl (hb hby at_163) rfl (l' := #[.val (.int p1), .val (.long q2), .second, .val (.long q3), .second, .val (.long q4), .second, .val (.int p5), .val (.int p6), .val (.int (1 : Int32)), .val (.long nn), .second, .val (.long ii), .second, .val (.long jj), .second, .val (.long kk), .second, .val (.ref b72), .val (.int ((own_upd (own_upd own_z ii p5) jj p6) ii)), .val (.int ((own_upd (own_upd own_z ii p5) jj p6) jj)), .val (.int ((own_upd (own_upd own_z ii p5) jj p6) kk)), .val (.int p5), .val (.int p6)]) rfl k) ?_
          refine own_go (fun t k => XS.goto X115.here hx rfl (pc0 := 165) (pc' := 186) rfl (hb hby at_165) (by decide) (by decide) k) ?_
          show own_Run p e below Φ (T115.setTop (mkF m 186 #[.val (.int p1), .val (.long q2), .second, .val (.long q3), .second, .val (.long q4), .second, .val (.int p5), .val (.int p6), .val (.int (1 : Int32)), .val (.long nn), .second, .val (.long ii), .second, .val (.long jj), .second, .val (.long kk), .second, .val (.ref b72), .val (.int ((own_upd (own_upd own_z ii p5) jj p6) ii)), .val (.int ((own_upd (own_upd own_z ii p5) jj p6) jj)), .val (.int ((own_upd (own_upd own_z ii p5) jj p6) kk)), .val (.int p5), .val (.int p6)] []))
          refine own_go (fun t k => XS.iload X115.here hx rfl (hb hby at_186) rfl  k) ?_
          refine own_go (fun t k => XS.iload X115.here hx rfl (hb hby at_188) rfl  k) ?_
          have hc190 : ((own_upd (own_upd own_z ii p5) jj p6) ii) = p5 := ((own_u2 hc141).trans own_u1')
          refine own_go (fun t k => XS.icmpNo X115.here hx rfl (hb hby at_190) rfl (teq hc190).2 k) ?_
          refine own_go (fun t k => XS.iload X115.here hx rfl (hb hby at_193) rfl  k) ?_
          refine own_go (fun t k => XS.iload X115.here hx rfl (hb hby at_195) rfl  k) ?_
          show own_Run p e below Φ (T115.setTop (mkF m 197 #[.val (.int p1), .val (.long q2), .second, .val (.long q3), .second, .val (.long q4), .second, .val (.int p5), .val (.int p6), .val (.int (1 : Int32)), .val (.long nn), .second, .val (.long ii), .second, .val (.long jj), .second, .val (.long kk), .second, .val (.ref b72), .val (.int ((own_upd (own_upd own_z ii p5) jj p6) ii)), .val (.int ((own_upd (own_upd own_z ii p5) jj p6) jj)), .val (.int ((own_upd (own_upd own_z ii p5) jj p6) kk)), .val (.int p5), .val (.int p6)] [(.int p6), (.int ((own_upd (own_upd own_z ii p5) jj p6) jj))]))
          have hc197 : ((own_upd (own_upd own_z ii p5) jj p6) jj) = p6 := own_u1'
          refine own_go (fun t k => XS.icmpNo X115.here hx rfl (hb hby at_197) rfl (teq hc197).2 k) ?_
          refine own_go (fun t k => XS.iload X115.here hx rfl (hb hby at_200) rfl  k) ?_
          refine own_go (fun t k => XS.iload X115.here hx rfl (hb hby at_202) rfl  k) ?_
          have hc204 : ((own_upd (own_upd own_z ii p5) jj p6) kk) = p6 := (own_u1 hc158)
          refine own_go (fun t k => XS.icmpNo X115.here hx rfl (hb hby at_204) rfl (teq hc204).2 k) ?_
          refine own_go (fun t k => XS.aload X115.here hx rfl (hb hby at_207) rfl rfl  k) ?_
          show own_Run p e below Φ (T115.setTop (mkF m 209 #[.val (.int p1), .val (.long q2), .second, .val (.long q3), .second, .val (.long q4), .second, .val (.int p5), .val (.int p6), .val (.int (1 : Int32)), .val (.long nn), .second, .val (.long ii), .second, .val (.long jj), .second, .val (.long kk), .second, .val (.ref b72), .val (.int ((own_upd (own_upd own_z ii p5) jj p6) ii)), .val (.int ((own_upd (own_upd own_z ii p5) jj p6) jj)), .val (.int ((own_upd (own_upd own_z ii p5) jj p6) kk)), .val (.int p5), .val (.int p6)] [(.ref b72)]))
          have F122 : Fld Z h103 b72 "com/example/hueline/hueline/model/BigIntArray" "length" "J" (.long nn) := ((P90_1.keep K94 (ninS ne_b72_x0 (ninS ne_b72_x1 nin0))).keep K103 (ninS ne_b72_x0 (ninS ne_b72_x1 nin0)))
          refine own_callV X115 hx hZ (y := (⟨"com/example/hueline/hueline/model/BigIntArray", "length", "()J"⟩ : MethodName)) (z := (⟨"com/example/hueline/hueline/model/BigIntArray", "length", "()J"⟩ : MethodName)) (W := 0) (a := b72) (argsL := []) (rest := []) hown (hw _ (List.mem_of_getElem? (i := 59) rfl)) (hw _ (List.mem_of_getElem? (i := 60) rfl)) (notFace_of_selects (args := #[]) (mvT hZ (hw _ (List.mem_of_getElem? (i := 62) rfl)))) (hw _ (List.mem_of_getElem? (i := 62) rfl)) (hw _ (List.mem_of_getElem? (i := 61) rfl)) (by decide) (own_bk (rm_ln l Z a0 hw b72 nn h103 n0 F122) hZ (hw _ (List.mem_of_getElem? (i := 63) rfl)) (hw _ (List.mem_of_getElem? (i := 3) rfl)) (by decide) (by decide)) e115 F113 (g := (mkF m 209 #[.val (.int p1), .val (.long q2), .second, .val (.long q3), .second, .val (.long q4), .second, .val (.int p5), .val (.int p6), .val (.int (1 : Int32)), .val (.long nn), .second, .val (.long ii), .second, .val (.long jj), .second, .val (.long kk), .second, .val (.ref b72), .val (.int ((own_upd (own_upd own_z ii p5) jj p6) ii)), .val (.int ((own_upd (own_upd own_z ii p5) jj p6) jj)), .val (.int ((own_upd (own_upd own_z ii p5) jj p6) kk)), .val (.int p5), .val (.int p6)] [(.ref b72)])) rfl (by rw [hml]; rfl) (lenOf pd_7 rfl) rfl (by show 2 * 0 + _ ≤ _; exact Nat.le_of_eq rfl) (hb hby at_209) (by decide) (by decide) (fun v123 T123 h123 L123 X123 e123 q123 => ?_)
          obtain ⟨rfl, M123, s123⟩ := q123
          replace e123 : T123.heap = h103 := e123.trans s123
          have N123 := Fr.app N115 M123
          refine own_go (fun t k => XS.lload X123.here hx rfl (hb hby at_212) rfl  k) ?_
          refine own_go (fun t k => XS.lcmp X123.here hx rfl (hb hby at_214) rfl k) ?_
          have hc215 : (lcmpW nn nn) = (0 : Int32) := ((lw_eq _ _).mpr rfl)
          refine own_go (fun t k => XS.ifNo X123.here hx rfl (hb hby at_215) rfl ((if0 _ _).trans (teq hc215).2) k) ?_
          refine own_go (fun t k => XS.iconst X123.here hx rfl (hb hby at_218) k) ?_
          show own_Run p e below Φ (T123.setTop (mkF m 219 #[.val (.int p1), .val (.long q2), .second, .val (.long q3), .second, .val (.long q4), .second, .val (.int p5), .val (.int p6), .val (.int (1 : Int32)), .val (.long nn), .second, .val (.long ii), .second, .val (.long jj), .second, .val (.long kk), .second, .val (.ref b72), .val (.int ((own_upd (own_upd own_z ii p5) jj p6) ii)), .val (.int ((own_upd (own_upd own_z ii p5) jj p6) jj)), .val (.int ((own_upd (own_upd own_z ii p5) jj p6) kk)), .val (.int p5), .val (.int p6)] [(.int (1 : Int32))]))
          refine own_go (fun t k => XS.goto X123.here hx rfl (pc0 := 219) (pc' := 223) rfl (hb hby at_219) (by decide) (by decide) k) ?_
          subst hΦ
          exact own_retN X123 hx (t := .boolean) Bd.returns (by simp) hlk (hb hby at_223) e123 ⟨rfl, N123⟩ (by decide) (by decide)
        · refine own_go (fun t k => XS.ifYes X115.here hx rfl (pc0 := 158) (pc' := 168) rfl (hb hby at_158) rfl ((if0 _ _).trans (feq hc158).2) (by decide) (by decide) k) ?_
          refine own_go (fun t k => XS.lload X115.here hx rfl (hb hby at_168) rfl  k) ?_
          refine own_go (fun t k => XS.lload X115.here hx rfl (hb hby at_170) rfl  k) ?_
          refine own_go (fun t k => XS.lcmp X115.here hx rfl (hb hby at_172) rfl k) ?_
          show own_Run p e below Φ (T115.setTop (mkF m 173 #[.val (.int p1), .val (.long q2), .second, .val (.long q3), .second, .val (.long q4), .second, .val (.int p5), .val (.int p6), .val (.int (1 : Int32)), .val (.long nn), .second, .val (.long ii), .second, .val (.long jj), .second, .val (.long kk), .second, .val (.ref b72), .val (.int ((own_upd (own_upd own_z ii p5) jj p6) ii)), .val (.int ((own_upd (own_upd own_z ii p5) jj p6) jj)), .val (.int ((own_upd (own_upd own_z ii p5) jj p6) kk)), .val (.int p5), .unset] [(.int (lcmpW kk ii))]))
          by_cases hc173 : (lcmpW kk ii) = (0 : Int32)
          · refine own_go (fun t k => XS.ifNo X115.here hx rfl (hb hby at_173) rfl ((if0 _ _).trans (teq hc173).2) k) ?_
            refine own_go (fun t k => XS.iload X115.here hx rfl (hb hby at_176) rfl  k) ?_
            refine own_go (fun t k => XS.istore X115.here hx rfl (hb hby at_178) rfl (l' := #[.val (.int p1), .val (.long q2), .second, .val (.long q3), .second, .val (.long q4), .second, .val (.int p5), .val (.int p6), .val (.int (1 : Int32)), .val (.long nn), .second, .val (.long ii), .second, .val (.long jj), .second, .val (.long kk), .second, .val (.ref b72), .val (.int ((own_upd (own_upd own_z ii p5) jj p6) ii)), .val (.int ((own_upd (own_upd own_z ii p5) jj p6) jj)), .val (.int ((own_upd (own_upd own_z ii p5) jj p6) kk)), .val (.int p5), .val (.int p5)]) rfl k) ?_
            refine own_go (fun t k => XS.goto X115.here hx rfl (pc0 := 180) (pc' := 186) rfl (hb hby at_180) (by decide) (by decide) k) ?_
            refine own_go (fun t k => XS.iload X115.here hx rfl (hb hby at_186) rfl  k) ?_
            show own_Run p e below Φ (T115.setTop (mkF m 188 #[.val (.int p1), .val (.long q2), .second, .val (.long q3), .second, .val (.long q4), .second, .val (.int p5), .val (.int p6), .val (.int (1 : Int32)), .val (.long nn), .second, .val (.long ii), .second, .val (.long jj), .second, .val (.long kk), .second, .val (.ref b72), .val (.int ((own_upd (own_upd own_z ii p5) jj p6) ii)), .val (.int ((own_upd (own_upd own_z ii p5) jj p6) jj)), .val (.int ((own_upd (own_upd own_z ii p5) jj p6) kk)), .val (.int p5), .val (.int p5)] [(.int ((own_upd (own_upd own_z ii p5) jj p6) ii))]))
            refine own_go (fun t k => XS.iload X115.here hx rfl (hb hby at_188) rfl  k) ?_
            have hc190 : ((own_upd (own_upd own_z ii p5) jj p6) ii) = p5 := ((own_u2 hc141).trans own_u1')
            refine own_go (fun t k => XS.icmpNo X115.here hx rfl (hb hby at_190) rfl (teq hc190).2 k) ?_
            refine own_go (fun t k => XS.iload X115.here hx rfl (hb hby at_193) rfl  k) ?_
            refine own_go (fun t k => XS.iload X115.here hx rfl (hb hby at_195) rfl  k) ?_
            have hc197 : ((own_upd (own_upd own_z ii p5) jj p6) jj) = p6 := own_u1'
            refine own_go (fun t k => XS.icmpNo X115.here hx rfl (hb hby at_197) rfl (teq hc197).2 k) ?_
            show own_Run p e below Φ (T115.setTop (mkF m 200 #[.val (.int p1), .val (.long q2), .second, .val (.long q3), .second, .val (.long q4), .second, .val (.int p5), .val (.int p6), .val (.int (1 : Int32)), .val (.long nn), .second, .val (.long ii), .second, .val (.long jj), .second, .val (.long kk), .second, .val (.ref b72), .val (.int ((own_upd (own_upd own_z ii p5) jj p6) ii)), .val (.int ((own_upd (own_upd own_z ii p5) jj p6) jj)), .val (.int ((own_upd (own_upd own_z ii p5) jj p6) kk)), .val (.int p5), .val (.int p5)] []))
            refine own_go (fun t k => XS.iload X115.here hx rfl (hb hby at_200) rfl  k) ?_
            refine own_go (fun t k => XS.iload X115.here hx rfl (hb hby at_202) rfl  k) ?_
            have hc204 : ((own_upd (own_upd own_z ii p5) jj p6) kk) = p5 := ((own_u2 hc158).trans (own_u1 hc173))
            refine own_go (fun t k => XS.icmpNo X115.here hx rfl (hb hby at_204) rfl (teq hc204).2 k) ?_
            refine own_go (fun t k => XS.aload X115.here hx rfl (hb hby at_207) rfl rfl  k) ?_
            have F124 : Fld Z h103 b72 "com/example/hueline/hueline/model/BigIntArray" "length" "J" (.long nn) := ((P90_1.keep K94 (ninS ne_b72_x0 (ninS ne_b72_x1 nin0))).keep K103 (ninS ne_b72_x0 (ninS ne_b72_x1 nin0)))
            refine own_callV X115 hx hZ (y := (⟨"com/example/hueline/hueline/model/BigIntArray", "length", "()J"⟩ : MethodName)) (z := (⟨"com/example/hueline/hueline/model/BigIntArray", "length", "()J"⟩ : MethodName)) (W := 0) (a := b72) (argsL := []) (rest := []) hown (hw _ (List.mem_of_getElem? (i := 59) rfl)) (hw _ (List.mem_of_getElem? (i := 60) rfl)) (notFace_of_selects (args := #[]) (mvT hZ (hw _ (List.mem_of_getElem? (i := 62) rfl)))) (hw _ (List.mem_of_getElem? (i := 62) rfl)) (hw _ (List.mem_of_getElem? (i := 61) rfl)) (by decide) (own_bk (rm_ln l Z a0 hw b72 nn h103 n0 F124) hZ (hw _ (List.mem_of_getElem? (i := 63) rfl)) (hw _ (List.mem_of_getElem? (i := 3) rfl)) (by decide) (by decide)) e115 F113 (g := (mkF m 209 #[.val (.int p1), .val (.long q2), .second, .val (.long q3), .second, .val (.long q4), .second, .val (.int p5), .val (.int p6), .val (.int (1 : Int32)), .val (.long nn), .second, .val (.long ii), .second, .val (.long jj), .second, .val (.long kk), .second, .val (.ref b72), .val (.int ((own_upd (own_upd own_z ii p5) jj p6) ii)), .val (.int ((own_upd (own_upd own_z ii p5) jj p6) jj)), .val (.int ((own_upd (own_upd own_z ii p5) jj p6) kk)), .val (.int p5), .val (.int p5)] [(.ref b72)])) rfl (by rw [hml]; rfl) (lenOf pd_7 rfl) rfl (by show 2 * 0 + _ ≤ _; exact Nat.le_of_eq rfl) (hb hby at_209) (by decide) (by decide) (fun v125 T125 h125 L125 X125 e125 q125 => ?_)
            obtain ⟨rfl, M125, s125⟩ := q125
            replace e125 : T125.heap = h103 := e125.trans s125
            have N125 := Fr.app N115 M125
            show own_Run p e below Φ (T125.setTop (mkF m 212 #[.val (.int p1), .val (.long q2), .second, .val (.long q3), .second, .val (.long q4), .second, .val (.int p5), .val (.int p6), .val (.int (1 : Int32)), .val (.long nn), .second, .val (.long ii), .second, .val (.long jj), .second, .val (.long kk), .second, .val (.ref b72), .val (.int ((own_upd (own_upd own_z ii p5) jj p6) ii)), .val (.int ((own_upd (own_upd own_z ii p5) jj p6) jj)), .val (.int ((own_upd (own_upd own_z ii p5) jj p6) kk)), .val (.int p5), .val (.int p5)] [(.long nn)]))
            refine own_go (fun t k => XS.lload X125.here hx rfl (hb hby at_212) rfl  k) ?_
            refine own_go (fun t k => XS.lcmp X125.here hx rfl (hb hby at_214) rfl k) ?_
            have hc215 : (lcmpW nn nn) = (0 : Int32) := ((lw_eq _ _).mpr rfl)
            refine own_go (fun t k => XS.ifNo X125.here hx rfl (hb hby at_215) rfl ((if0 _ _).trans (teq hc215).2) k) ?_
            refine own_go (fun t k => XS.iconst X125.here hx rfl (hb hby at_218) k) ?_
            refine own_go (fun t k => XS.goto X125.here hx rfl (pc0 := 219) (pc' := 223) rfl (hb hby at_219) (by decide) (by decide) k) ?_
            show own_Run p e below Φ (T125.setTop (mkF m 223 #[.val (.int p1), .val (.long q2), .second, .val (.long q3), .second, .val (.long q4), .second, .val (.int p5), .val (.int p6), .val (.int (1 : Int32)), .val (.long nn), .second, .val (.long ii), .second, .val (.long jj), .second, .val (.long kk), .second, .val (.ref b72), .val (.int ((own_upd (own_upd own_z ii p5) jj p6) ii)), .val (.int ((own_upd (own_upd own_z ii p5) jj p6) jj)), .val (.int ((own_upd (own_upd own_z ii p5) jj p6) kk)), .val (.int p5), .val (.int p5)] [(.int (1 : Int32))]))
            subst hΦ
            exact own_retN X125 hx (t := .boolean) Bd.returns (by simp) hlk (hb hby at_223) e125 ⟨rfl, N125⟩ (by decide) (by decide)
          · refine own_go (fun t k => XS.ifYes X115.here hx rfl (pc0 := 173) (pc' := 183) rfl (hb hby at_173) rfl ((if0 _ _).trans (feq hc173).2) (by decide) (by decide) k) ?_
            refine own_go (fun t k => XS.iconst X115.here hx rfl (hb hby at_183) k) ?_
            refine own_go (fun t k => XS.istore X115.here hx rfl (hb hby at_184) rfl (l' := #[.val (.int p1), .val (.long q2), .second, .val (.long q3), .second, .val (.long q4), .second, .val (.int p5), .val (.int p6), .val (.int (1 : Int32)), .val (.long nn), .second, .val (.long ii), .second, .val (.long jj), .second, .val (.long kk), .second, .val (.ref b72), .val (.int ((own_upd (own_upd own_z ii p5) jj p6) ii)), .val (.int ((own_upd (own_upd own_z ii p5) jj p6) jj)), .val (.int ((own_upd (own_upd own_z ii p5) jj p6) kk)), .val (.int p5), .val (.int (0 : Int32))]) rfl k) ?_
            refine own_go (fun t k => XS.iload X115.here hx rfl (hb hby at_186) rfl  k) ?_
            refine own_go (fun t k => XS.iload X115.here hx rfl (hb hby at_188) rfl  k) ?_
            show own_Run p e below Φ (T115.setTop (mkF m 190 #[.val (.int p1), .val (.long q2), .second, .val (.long q3), .second, .val (.long q4), .second, .val (.int p5), .val (.int p6), .val (.int (1 : Int32)), .val (.long nn), .second, .val (.long ii), .second, .val (.long jj), .second, .val (.long kk), .second, .val (.ref b72), .val (.int ((own_upd (own_upd own_z ii p5) jj p6) ii)), .val (.int ((own_upd (own_upd own_z ii p5) jj p6) jj)), .val (.int ((own_upd (own_upd own_z ii p5) jj p6) kk)), .val (.int p5), .val (.int (0 : Int32))] [(.int p5), (.int ((own_upd (own_upd own_z ii p5) jj p6) ii))]))
            have hc190 : ((own_upd (own_upd own_z ii p5) jj p6) ii) = p5 := ((own_u2 hc141).trans own_u1')
            refine own_go (fun t k => XS.icmpNo X115.here hx rfl (hb hby at_190) rfl (teq hc190).2 k) ?_
            refine own_go (fun t k => XS.iload X115.here hx rfl (hb hby at_193) rfl  k) ?_
            refine own_go (fun t k => XS.iload X115.here hx rfl (hb hby at_195) rfl  k) ?_
            have hc197 : ((own_upd (own_upd own_z ii p5) jj p6) jj) = p6 := own_u1'
            refine own_go (fun t k => XS.icmpNo X115.here hx rfl (hb hby at_197) rfl (teq hc197).2 k) ?_
            refine own_go (fun t k => XS.iload X115.here hx rfl (hb hby at_200) rfl  k) ?_
            show own_Run p e below Φ (T115.setTop (mkF m 202 #[.val (.int p1), .val (.long q2), .second, .val (.long q3), .second, .val (.long q4), .second, .val (.int p5), .val (.int p6), .val (.int (1 : Int32)), .val (.long nn), .second, .val (.long ii), .second, .val (.long jj), .second, .val (.long kk), .second, .val (.ref b72), .val (.int ((own_upd (own_upd own_z ii p5) jj p6) ii)), .val (.int ((own_upd (own_upd own_z ii p5) jj p6) jj)), .val (.int ((own_upd (own_upd own_z ii p5) jj p6) kk)), .val (.int p5), .val (.int (0 : Int32))] [(.int ((own_upd (own_upd own_z ii p5) jj p6) kk))]))
            refine own_go (fun t k => XS.iload X115.here hx rfl (hb hby at_202) rfl  k) ?_
            have hc204 : ((own_upd (own_upd own_z ii p5) jj p6) kk) = (0 : Int32) := ((own_u2 hc158).trans (own_u2 hc173))
            refine own_go (fun t k => XS.icmpNo X115.here hx rfl (hb hby at_204) rfl (teq hc204).2 k) ?_
            refine own_go (fun t k => XS.aload X115.here hx rfl (hb hby at_207) rfl rfl  k) ?_
            have F126 : Fld Z h103 b72 "com/example/hueline/hueline/model/BigIntArray" "length" "J" (.long nn) := ((P90_1.keep K94 (ninS ne_b72_x0 (ninS ne_b72_x1 nin0))).keep K103 (ninS ne_b72_x0 (ninS ne_b72_x1 nin0)))
            refine own_callV X115 hx hZ (y := (⟨"com/example/hueline/hueline/model/BigIntArray", "length", "()J"⟩ : MethodName)) (z := (⟨"com/example/hueline/hueline/model/BigIntArray", "length", "()J"⟩ : MethodName)) (W := 0) (a := b72) (argsL := []) (rest := []) hown (hw _ (List.mem_of_getElem? (i := 59) rfl)) (hw _ (List.mem_of_getElem? (i := 60) rfl)) (notFace_of_selects (args := #[]) (mvT hZ (hw _ (List.mem_of_getElem? (i := 62) rfl)))) (hw _ (List.mem_of_getElem? (i := 62) rfl)) (hw _ (List.mem_of_getElem? (i := 61) rfl)) (by decide) (own_bk (rm_ln l Z a0 hw b72 nn h103 n0 F126) hZ (hw _ (List.mem_of_getElem? (i := 63) rfl)) (hw _ (List.mem_of_getElem? (i := 3) rfl)) (by decide) (by decide)) e115 F113 (g := (mkF m 209 #[.val (.int p1), .val (.long q2), .second, .val (.long q3), .second, .val (.long q4), .second, .val (.int p5), .val (.int p6), .val (.int (1 : Int32)), .val (.long nn), .second, .val (.long ii), .second, .val (.long jj), .second, .val (.long kk), .second, .val (.ref b72), .val (.int ((own_upd (own_upd own_z ii p5) jj p6) ii)), .val (.int ((own_upd (own_upd own_z ii p5) jj p6) jj)), .val (.int ((own_upd (own_upd own_z ii p5) jj p6) kk)), .val (.int p5), .val (.int (0 : Int32))] [(.ref b72)])) rfl (by rw [hml]; rfl) (lenOf pd_7 rfl) rfl (by show 2 * 0 + _ ≤ _; exact Nat.le_of_eq rfl) (hb hby at_209) (by decide) (by decide) (fun v127 T127 h127 L127 X127 e127 q127 => ?_)
            obtain ⟨rfl, M127, s127⟩ := q127
            replace e127 : T127.heap = h103 := e127.trans s127
            have N127 := Fr.app N115 M127
            refine own_go (fun t k => XS.lload X127.here hx rfl (hb hby at_212) rfl  k) ?_
            show own_Run p e below Φ (T127.setTop (mkF m 214 #[.val (.int p1), .val (.long q2), .second, .val (.long q3), .second, .val (.long q4), .second, .val (.int p5), .val (.int p6), .val (.int (1 : Int32)), .val (.long nn), .second, .val (.long ii), .second, .val (.long jj), .second, .val (.long kk), .second, .val (.ref b72), .val (.int ((own_upd (own_upd own_z ii p5) jj p6) ii)), .val (.int ((own_upd (own_upd own_z ii p5) jj p6) jj)), .val (.int ((own_upd (own_upd own_z ii p5) jj p6) kk)), .val (.int p5), .val (.int (0 : Int32))] [(.long nn), (.long nn)]))
            refine own_go (fun t k => XS.lcmp X127.here hx rfl (hb hby at_214) rfl k) ?_
            have hc215 : (lcmpW nn nn) = (0 : Int32) := ((lw_eq _ _).mpr rfl)
            refine own_go (fun t k => XS.ifNo X127.here hx rfl (hb hby at_215) rfl ((if0 _ _).trans (teq hc215).2) k) ?_
            refine own_go (fun t k => XS.iconst X127.here hx rfl (hb hby at_218) k) ?_
            refine own_go (fun t k => XS.goto X127.here hx rfl (pc0 := 219) (pc' := 223) rfl (hb hby at_219) (by decide) (by decide) k) ?_
            subst hΦ
            exact own_retN X127 hx (t := .boolean) Bd.returns (by simp) hlk (hb hby at_223) e127 ⟨rfl, N127⟩ (by decide) (by decide)
    · obtain ⟨zl, hzl⟩ := own_ex (n := nn) 8 (by decide) (by omega)
      show own_Run p e below Φ (s₁.setTop (mkF m 60 #[.val (.int p1), .val (.long q2), .second, .val (.long q3), .second, .val (.long q4), .second, .val (.int p5), .val (.int p6), .val (.int (1 : Int32)), .val (.long nn), .second, .val (.long ii), .second, .val (.long jj), .second, .val (.long kk), .second, .unset, .unset, .unset, .unset, .unset, .unset] []))
      obtain ⟨T128, h128, X128, e128, E128, A128, D128, -, st128⟩ := newO X0 hx hZ hown (hw _ (List.mem_of_getElem? (i := 1) rfl)) (hw _ (List.mem_of_getElem? (i := 2) rfl)) (hw _ (List.mem_of_getElem? (i := 3) rfl)) e0 (g := (mkF m 60 #[.val (.int p1), .val (.long q2), .second, .val (.long q3), .second, .val (.long q4), .second, .val (.int p5), .val (.int p6), .val (.int (1 : Int32)), .val (.long nn), .second, .val (.long ii), .second, .val (.long jj), .second, .val (.long kk), .second, .unset, .unset, .unset, .unset, .unset, .unset] [])) rfl (hb hby at_60) (by decide) (by decide)
      refine own_go st128 ?_
      obtain ⟨b128, g128⟩ : ∃ z, z = h0.size := ⟨_, rfl⟩
      rw [← g128] at A128 D128 ⊢
      have G129 : Fld Z h128 b128 "com/example/hueline/hueline/model/BigIntArray" "layout" "Lcom/example/hueline/hueline/model/Pages;" .null := D128 (Or.inr (hw _ (List.mem_of_getElem? (i := 17) rfl))) (ty := (.object "com/example/hueline/hueline/model/Pages")) (by decide)
      have G130 : Fld Z h128 b128 "com/example/hueline/hueline/model/BigIntArray" "pages" "[[I" .null := D128 (Or.inl (hw _ (List.mem_of_getElem? (i := 31) rfl))) (ty := (.array (.array .int))) (by decide)
      have G131 : Fld Z h128 b128 "com/example/hueline/hueline/model/BigIntArray" "length" "J" (.long (0 : Int64)) := D128 (Or.inl (hw _ (List.mem_of_getElem? (i := 33) rfl))) (ty := .long) (by decide)
      have G132 : Fld Z h128 b128 "com/example/hueline/hueline/model/BigIntArray" "flat" "[I" .null := D128 (Or.inl (hw _ (List.mem_of_getElem? (i := 48) rfl))) (ty := (.array .int)) (by decide)
      show own_Run p e below Φ (T128.setTop (mkF m 63 #[.val (.int p1), .val (.long q2), .second, .val (.long q3), .second, .val (.long q4), .second, .val (.int p5), .val (.int p6), .val (.int (1 : Int32)), .val (.long nn), .second, .val (.long ii), .second, .val (.long jj), .second, .val (.long kk), .second, .unset, .unset, .unset, .unset, .unset, .unset] [(.ref b128)]))
      refine own_go (fun t k => XS.dup X128.here hx rfl (hb hby at_63) rfl rfl k) ?_
      refine own_go (fun t k => XS.lload X128.here hx rfl (hb hby at_64) rfl  k) ?_
      have F134 : n0 ≤ h128.size := (Nat.le_trans Z0 E128.1)
      obtain ⟨T133, h133, X133, e133, E133, A133, D133, -, st133⟩ := newO X128 hx hZ hown (hw _ (List.mem_of_getElem? (i := 64) rfl)) (hw _ (List.mem_of_getElem? (i := 65) rfl)) (hw _ (List.mem_of_getElem? (i := 8) rfl)) e128 (g := (mkF m 66 #[.val (.int p1), .val (.long q2), .second, .val (.long q3), .second, .val (.long q4), .second, .val (.int p5), .val (.int p6), .val (.int (1 : Int32)), .val (.long nn), .second, .val (.long ii), .second, .val (.long jj), .second, .val (.long kk), .second, .unset, .unset, .unset, .unset, .unset, .unset] [(.long nn), (.ref b128), (.ref b128)])) rfl (hb hby at_66) (by decide) (by decide)
      refine own_go st133 ?_
      obtain ⟨b133, g133⟩ : ∃ z, z = h128.size := ⟨_, rfl⟩
      rw [← g133] at A133 D133 ⊢
      have ne_b128_b133 : b128 ≠ b133 := Nat.ne_of_lt (Nat.lt_of_lt_of_le A128.lt (Nat.le_of_eq g133.symm))
      have G135 : Fld Z h133 b133 "com/example/hueline/hueline/model/Pages" "mask" "I" (.int (0 : Int32)) := D133 (Or.inr (hw _ (List.mem_of_getElem? (i := 24) rfl))) (ty := .int) (by decide)
      have G136 : Fld Z h133 b133 "com/example/hueline/hueline/model/Pages" "shift" "I" (.int (0 : Int32)) := D133 (Or.inr (hw _ (List.mem_of_getElem? (i := 26) rfl))) (ty := .int) (by decide)
      have G137 : Fld Z h133 b133 "com/example/hueline/hueline/model/Pages" "length" "I" (.int (0 : Int32)) := D133 (Or.inr (hw _ (List.mem_of_getElem? (i := 40) rfl))) (ty := .int) (by decide)
      refine own_go (fun t k => XS.dup X133.here hx rfl (hb hby at_69) rfl rfl k) ?_
      refine own_go (fun t k => XS.iconst X133.here hx rfl (hb hby at_70) k) ?_
      show own_Run p e below Φ (T133.setTop (mkF m 71 #[.val (.int p1), .val (.long q2), .second, .val (.long q3), .second, .val (.long q4), .second, .val (.int p5), .val (.int p6), .val (.int (1 : Int32)), .val (.long nn), .second, .val (.long ii), .second, .val (.long jj), .second, .val (.long kk), .second, .unset, .unset, .unset, .unset, .unset, .unset] [(.int (2 : Int32)), (.ref b133), (.ref b133), (.long nn), (.ref b128), (.ref b128)]))
      refine own_callI X133 hx hZ (y := (⟨"com/example/hueline/hueline/model/Pages", "<init>", "(I)V"⟩ : MethodName)) (W := 5) (a := b133) (argsL := [(.int (2 : Int32))]) (rest := [(.ref b133), (.long nn), (.ref b128), (.ref b128)]) rfl hown (hw _ (List.mem_of_getElem? (i := 66) rfl)) (hw _ (List.mem_of_getElem? (i := 67) rfl)) (hw _ (List.mem_of_getElem? (i := 68) rfl)) (by decide) (own_bk (rm_pi l Z a0 hw b133 h133 n0 A133 G135 G136 G137 (Nat.le_trans F134 (Nat.le_of_eq g133.symm))) hZ (hw _ (List.mem_of_getElem? (i := 68) rfl)) (hw _ (List.mem_of_getElem? (i := 8) rfl)) (by decide) (by decide)) e133 (g := (mkF m 71 #[.val (.int p1), .val (.long q2), .second, .val (.long q3), .second, .val (.long q4), .second, .val (.int p5), .val (.int p6), .val (.int (1 : Int32)), .val (.long nn), .second, .val (.long ii), .second, .val (.long jj), .second, .val (.long kk), .second, .unset, .unset, .unset, .unset, .unset, .unset] [(.int (2 : Int32)), (.ref b133), (.ref b133), (.long nn), (.ref b128), (.ref b128)])) rfl (by rw [hml]; rfl) (lenOf pd_8 rfl) rfl (by show 2 * 0 + _ ≤ _; exact Nat.le_of_eq rfl) (hb hby at_71) (by decide) (by decide) (fun v138 T138 h138 L138 X138 e138 q138 => ?_)
      obtain ⟨rfl, M138, K138, P138_0, P138_1, P138_2⟩ := q138
      have N138 := Fr.app N0 M138
      have F139 : Exa Z h138 b128 "com/example/hueline/hueline/model/BigIntArray" := ((A128.ext E133).keep K138)
      have F140 : Exa Z h138 b133 "com/example/hueline/hueline/model/Pages" := (A133.keep K138)
      have F141 : Fld Z h138 b128 "com/example/hueline/hueline/model/BigIntArray" "layout" "Lcom/example/hueline/hueline/model/Pages;" .null := ((G129.ext E133).keep K138 (ninS ne_b128_b133 nin0))
      have F142 : Fld Z h138 b128 "com/example/hueline/hueline/model/BigIntArray" "pages" "[[I" .null := ((G130.ext E133).keep K138 (ninS ne_b128_b133 nin0))
      have F143 : Fld Z h138 b128 "com/example/hueline/hueline/model/BigIntArray" "length" "J" (.long (0 : Int64)) := ((G131.ext E133).keep K138 (ninS ne_b128_b133 nin0))
      have F144 : Fld Z h138 b128 "com/example/hueline/hueline/model/BigIntArray" "flat" "[I" .null := ((G132.ext E133).keep K138 (ninS ne_b128_b133 nin0))
      have F145 : n0 ≤ h138.size := (Nat.le_trans (Nat.le_trans F134 E133.1) K138.1)
      refine own_callI X138 hx hZ (y := (⟨"com/example/hueline/hueline/model/BigIntArray", "<init>", "(JLcom/example/hueline/hueline/model/Pages;)V"⟩ : MethodName)) (W := 1) (a := b128) (argsL := [(.long nn), (.ref b133)]) (rest := [(.ref b128)]) rfl hown (hw _ (List.mem_of_getElem? (i := 70) rfl)) (hw _ (List.mem_of_getElem? (i := 11) rfl)) (hw _ (List.mem_of_getElem? (i := 12) rfl)) (by decide) (own_bk (rm_ct3 l Z a0 hw b128 nn b133 zl h138 n0 F139 F141 F142 F143 F144 (Nat.le_trans Z0 (Nat.le_of_eq g128.symm)) F145 F140 P138_2 P138_0 P138_1 (Ne.symm ne_b128_b133) ⟨by omega, by omega⟩ (by omega)) hZ (hw _ (List.mem_of_getElem? (i := 12) rfl)) (hw _ (List.mem_of_getElem? (i := 3) rfl)) (by decide) (by decide)) e138 (g := (mkF m 74 #[.val (.int p1), .val (.long q2), .second, .val (.long q3), .second, .val (.long q4), .second, .val (.int p5), .val (.int p6), .val (.int (1 : Int32)), .val (.long nn), .second, .val (.long ii), .second, .val (.long jj), .second, .val (.long kk), .second, .unset, .unset, .unset, .unset, .unset, .unset] [(.ref b133), (.long nn), (.ref b128), (.ref b128)])) rfl (by rw [hml]; rfl) (lenOf pd_1 rfl) rfl (by show 2 * 0 + _ ≤ _; exact Nat.le_of_eq rfl) (hb hby at_74) (by decide) (by decide) (fun v146 T146 h146 L146 X146 e146 q146 => ?_)
      obtain ⟨rfl, M146, K146, P146_0, P146_1, P146_2, P146_3⟩ := q146
      have N146 := Fr.app N138 M146
      obtain ⟨x9, k9, x0, k0, x1, k1, x2, k2, gx9, zx9, gx0, zx0, gx1, zx1, gx2, zx2, nx9x0, nx9x1, nx9x2, nx0x1, nx0x2, nx1x2, FF, V9, Vx0, Vx1, Vx2⟩ := P146_3
      have ne_b128_x9 : b128 ≠ x9 := Nat.ne_of_lt (Nat.lt_of_lt_of_le F139.lt zx9)
      have ne_b133_x9 : b133 ≠ x9 := Nat.ne_of_lt (Nat.lt_of_lt_of_le F140.lt zx9)
      have ne_b128_x0 : b128 ≠ x0 := Nat.ne_of_lt (Nat.lt_of_lt_of_le F139.lt zx0)
      have ne_b133_x0 : b133 ≠ x0 := Nat.ne_of_lt (Nat.lt_of_lt_of_le F140.lt zx0)
      have ne_b128_x1 : b128 ≠ x1 := Nat.ne_of_lt (Nat.lt_of_lt_of_le F139.lt zx1)
      have ne_b133_x1 : b133 ≠ x1 := Nat.ne_of_lt (Nat.lt_of_lt_of_le F140.lt zx1)
      have ne_b128_x2 : b128 ≠ x2 := Nat.ne_of_lt (Nat.lt_of_lt_of_le F139.lt zx2)
      have ne_b133_x2 : b133 ≠ x2 := Nat.ne_of_lt (Nat.lt_of_lt_of_le F140.lt zx2)
      refine own_go (fun t k => XS.goto X146.here hx rfl (pc0 := 77) (pc' := 89) rfl (hb hby at_77) (by decide) (by decide) k) ?_
      refine own_go (fun t k => XS.astore X146.here hx rfl (hb hby at_89) rfl rfl (l' := #[.val (.int p1), .val (.long q2), .second, .val (.long q3), .second, .val (.long q4), .second, .val (.int p5), .val (.int p6), .val (.int (1 : Int32)), .val (.long nn), .second, .val (.long ii), .second, .val (.long jj), .second, .val (.long kk), .second, .val (.ref b128), .unset, .unset, .unset, .unset, .unset]) rfl k) ?_
      refine own_go (fun t k => XS.aload X146.here hx rfl (hb hby at_91) rfl rfl  k) ?_
      show own_Run p e below Φ (T146.setTop (mkF m 93 #[.val (.int p1), .val (.long q2), .second, .val (.long q3), .second, .val (.long q4), .second, .val (.int p5), .val (.int p6), .val (.int (1 : Int32)), .val (.long nn), .second, .val (.long ii), .second, .val (.long jj), .second, .val (.long kk), .second, .val (.ref b128), .unset, .unset, .unset, .unset, .unset] [(.ref b128)]))
      refine own_go (fun t k => XS.lload X146.here hx rfl (hb hby at_93) rfl  k) ?_
      refine own_go (fun t k => XS.iload X146.here hx rfl (hb hby at_95) rfl  k) ?_
      have F147 : Exa Z h146 b133 "com/example/hueline/hueline/model/Pages" := (F140.keep K146)
      have F148 : Fld Z h146 b133 "com/example/hueline/hueline/model/Pages" "shift" "I" (.int (2 : Int32)) := (P138_0.keep K146 (ninS (Ne.symm ne_b128_b133) nin0))
      have F149 : Fld Z h146 b133 "com/example/hueline/hueline/model/Pages" "mask" "I" (.int (3 : Int32)) := (P138_2.keep K146 (ninS (Ne.symm ne_b128_b133) nin0))
      have F151 : Exa Z h146 b128 "com/example/hueline/hueline/model/BigIntArray" := (F139.keep K146)
      refine own_callV X146 hx hZ (y := (⟨"com/example/hueline/hueline/model/BigIntArray", "set", "(JI)V"⟩ : MethodName)) (z := (⟨"com/example/hueline/hueline/model/BigIntArray", "set", "(JI)V"⟩ : MethodName)) (W := 0) (a := b128) (argsL := [(.long ii), (.int p5)]) (rest := []) hown (hw _ (List.mem_of_getElem? (i := 49) rfl)) (hw _ (List.mem_of_getElem? (i := 50) rfl)) (notFace_of_selects (args := #[]) (mvT hZ (hw _ (List.mem_of_getElem? (i := 52) rfl)))) (hw _ (List.mem_of_getElem? (i := 52) rfl)) (hw _ (List.mem_of_getElem? (i := 51) rfl)) (by decide) (own_bk (rm_set3 l Z a0 hw b128 ii p5 b133 x9 k9 x0 k0 x1 k1 x2 k2 zl own_z h146 n0 P146_2 FF P146_0 F147 F148 F149 V9 Vx0 Vx1 Vx2 ⟨by omega, by omega⟩ ⟨by omega, by omega⟩ gx0 gx1 gx2 nx0x1 nx0x2 nx1x2 ne_b133_x0 ne_b133_x1 ne_b133_x2) hZ (hw _ (List.mem_of_getElem? (i := 53) rfl)) (hw _ (List.mem_of_getElem? (i := 3) rfl)) (by decide) (by decide)) e146 F151 (g := (mkF m 97 #[.val (.int p1), .val (.long q2), .second, .val (.long q3), .second, .val (.long q4), .second, .val (.int p5), .val (.int p6), .val (.int (1 : Int32)), .val (.long nn), .second, .val (.long ii), .second, .val (.long jj), .second, .val (.long kk), .second, .val (.ref b128), .unset, .unset, .unset, .unset, .unset] [(.int p5), (.long ii), (.ref b128)])) rfl (by rw [hml]; rfl) (lenOf pd_6 rfl) rfl (by show 2 * 0 + _ ≤ _; exact Nat.le_of_eq rfl) (hb hby at_97) (by decide) (by decide) (fun v150 T150 h150 L150 X150 e150 q150 => ?_)
      obtain ⟨rfl, M150, K150, P150_0, P150_1, P150_2⟩ := q150
      have N150 := Fr.app N146 M150
      refine own_go (fun t k => XS.aload X150.here hx rfl (hb hby at_100) rfl rfl  k) ?_
      refine own_go (fun t k => XS.lload X150.here hx rfl (hb hby at_102) rfl  k) ?_
      show own_Run p e below Φ (T150.setTop (mkF m 104 #[.val (.int p1), .val (.long q2), .second, .val (.long q3), .second, .val (.long q4), .second, .val (.int p5), .val (.int p6), .val (.int (1 : Int32)), .val (.long nn), .second, .val (.long ii), .second, .val (.long jj), .second, .val (.long kk), .second, .val (.ref b128), .unset, .unset, .unset, .unset, .unset] [(.long jj), (.ref b128)]))
      refine own_go (fun t k => XS.iload X150.here hx rfl (hb hby at_104) rfl  k) ?_
      have F152 : Fld Z h150 b128 "com/example/hueline/hueline/model/BigIntArray" "flat" "[I" .null := (P146_2.keep K150 (ninS ne_b128_x0 (ninS ne_b128_x1 (ninS ne_b128_x2 nin0))))
      have F153 : Fld Z h150 b128 "com/example/hueline/hueline/model/BigIntArray" "pages" "[[I" (.ref x9) := (FF.keep K150 (ninS ne_b128_x0 (ninS ne_b128_x1 (ninS ne_b128_x2 nin0))))
      have F154 : Fld Z h150 b128 "com/example/hueline/hueline/model/BigIntArray" "layout" "Lcom/example/hueline/hueline/model/Pages;" (.ref b133) := (P146_0.keep K150 (ninS ne_b128_x0 (ninS ne_b128_x1 (ninS ne_b128_x2 nin0))))
      have F155 : Exa Z h150 b133 "com/example/hueline/hueline/model/Pages" := (F147.keep K150)
      have F156 : Fld Z h150 b133 "com/example/hueline/hueline/model/Pages" "shift" "I" (.int (2 : Int32)) := (F148.keep K150 (ninS ne_b133_x0 (ninS ne_b133_x1 (ninS ne_b133_x2 nin0))))
      have F157 : Fld Z h150 b133 "com/example/hueline/hueline/model/Pages" "mask" "I" (.int (3 : Int32)) := (F149.keep K150 (ninS ne_b133_x0 (ninS ne_b133_x1 (ninS ne_b133_x2 nin0))))
      have F158 : Arv Z h150 x9 k9 (.array .int) (3 : Int32) [(.ref x0), (.ref x1), (.ref x2)] .null := (V9.keep K150 (ninS nx9x0 (ninS nx9x1 (ninS nx9x2 nin0))))
      have F160 : Exa Z h150 b128 "com/example/hueline/hueline/model/BigIntArray" := (F151.keep K150)
      refine own_callV X150 hx hZ (y := (⟨"com/example/hueline/hueline/model/BigIntArray", "set", "(JI)V"⟩ : MethodName)) (z := (⟨"com/example/hueline/hueline/model/BigIntArray", "set", "(JI)V"⟩ : MethodName)) (W := 0) (a := b128) (argsL := [(.long jj), (.int p6)]) (rest := []) hown (hw _ (List.mem_of_getElem? (i := 49) rfl)) (hw _ (List.mem_of_getElem? (i := 50) rfl)) (notFace_of_selects (args := #[]) (mvT hZ (hw _ (List.mem_of_getElem? (i := 52) rfl)))) (hw _ (List.mem_of_getElem? (i := 52) rfl)) (hw _ (List.mem_of_getElem? (i := 51) rfl)) (by decide) (own_bk (rm_set3 l Z a0 hw b128 jj p6 b133 x9 k9 x0 k0 x1 k1 x2 k2 zl (own_upd own_z ii p5) h150 n0 F152 F153 F154 F155 F156 F157 F158 P150_0 P150_1 P150_2 ⟨by omega, by omega⟩ ⟨by omega, by omega⟩ gx0 gx1 gx2 nx0x1 nx0x2 nx1x2 ne_b133_x0 ne_b133_x1 ne_b133_x2) hZ (hw _ (List.mem_of_getElem? (i := 53) rfl)) (hw _ (List.mem_of_getElem? (i := 3) rfl)) (by decide) (by decide)) e150 F160 (g := (mkF m 106 #[.val (.int p1), .val (.long q2), .second, .val (.long q3), .second, .val (.long q4), .second, .val (.int p5), .val (.int p6), .val (.int (1 : Int32)), .val (.long nn), .second, .val (.long ii), .second, .val (.long jj), .second, .val (.long kk), .second, .val (.ref b128), .unset, .unset, .unset, .unset, .unset] [(.int p6), (.long jj), (.ref b128)])) rfl (by rw [hml]; rfl) (lenOf pd_6 rfl) rfl (by show 2 * 0 + _ ≤ _; exact Nat.le_of_eq rfl) (hb hby at_106) (by decide) (by decide) (fun v159 T159 h159 L159 X159 e159 q159 => ?_)
      obtain ⟨rfl, M159, K159, P159_0, P159_1, P159_2⟩ := q159
      have N159 := Fr.app N150 M159
      refine own_go (fun t k => XS.aload X159.here hx rfl (hb hby at_109) rfl rfl  k) ?_
      refine own_go (fun t k => XS.lload X159.here hx rfl (hb hby at_111) rfl  k) ?_
      have F161 : Fld Z h159 b128 "com/example/hueline/hueline/model/BigIntArray" "flat" "[I" .null := (F152.keep K159 (ninS ne_b128_x0 (ninS ne_b128_x1 (ninS ne_b128_x2 nin0))))
      have F162 : Fld Z h159 b128 "com/example/hueline/hueline/model/BigIntArray" "pages" "[[I" (.ref x9) := (F153.keep K159 (ninS ne_b128_x0 (ninS ne_b128_x1 (ninS ne_b128_x2 nin0))))
      have F163 : Fld Z h159 b128 "com/example/hueline/hueline/model/BigIntArray" "layout" "Lcom/example/hueline/hueline/model/Pages;" (.ref b133) := (F154.keep K159 (ninS ne_b128_x0 (ninS ne_b128_x1 (ninS ne_b128_x2 nin0))))
      have F164 : Exa Z h159 b133 "com/example/hueline/hueline/model/Pages" := (F155.keep K159)
      have F165 : Fld Z h159 b133 "com/example/hueline/hueline/model/Pages" "shift" "I" (.int (2 : Int32)) := (F156.keep K159 (ninS ne_b133_x0 (ninS ne_b133_x1 (ninS ne_b133_x2 nin0))))
      have F166 : Fld Z h159 b133 "com/example/hueline/hueline/model/Pages" "mask" "I" (.int (3 : Int32)) := (F157.keep K159 (ninS ne_b133_x0 (ninS ne_b133_x1 (ninS ne_b133_x2 nin0))))
      have F167 : Arv Z h159 x9 k9 (.array .int) (3 : Int32) [(.ref x0), (.ref x1), (.ref x2)] .null := (F158.keep K159 (ninS nx9x0 (ninS nx9x1 (ninS nx9x2 nin0))))
      have F169 : Exa Z h159 b128 "com/example/hueline/hueline/model/BigIntArray" := (F160.keep K159)
      refine own_callV X159 hx hZ (y := (⟨"com/example/hueline/hueline/model/BigIntArray", "get", "(J)I"⟩ : MethodName)) (z := (⟨"com/example/hueline/hueline/model/BigIntArray", "get", "(J)I"⟩ : MethodName)) (W := 0) (a := b128) (argsL := [(.long ii)]) (rest := []) hown (hw _ (List.mem_of_getElem? (i := 54) rfl)) (hw _ (List.mem_of_getElem? (i := 55) rfl)) (notFace_of_selects (args := #[]) (mvT hZ (hw _ (List.mem_of_getElem? (i := 57) rfl)))) (hw _ (List.mem_of_getElem? (i := 57) rfl)) (hw _ (List.mem_of_getElem? (i := 56) rfl)) (by decide) (own_bk (rm_get3 l Z a0 hw b128 ii b133 x9 k9 x0 k0 x1 k1 x2 k2 zl (own_upd (own_upd own_z ii p5) jj p6) h159 n0 F161 F162 F163 F164 F165 F166 F167 P159_0 P159_1 P159_2 ⟨by omega, by omega⟩ ⟨by omega, by omega⟩) hZ (hw _ (List.mem_of_getElem? (i := 58) rfl)) (hw _ (List.mem_of_getElem? (i := 3) rfl)) (by decide) (by decide)) e159 F169 (g := (mkF m 113 #[.val (.int p1), .val (.long q2), .second, .val (.long q3), .second, .val (.long q4), .second, .val (.int p5), .val (.int p6), .val (.int (1 : Int32)), .val (.long nn), .second, .val (.long ii), .second, .val (.long jj), .second, .val (.long kk), .second, .val (.ref b128), .unset, .unset, .unset, .unset, .unset] [(.long ii), (.ref b128)])) rfl (by rw [hml]; rfl) (lenOf pd_3 rfl) rfl (by show 2 * 0 + _ ≤ _; exact Nat.le_of_eq rfl) (hb hby at_113) (by decide) (by decide) (fun v168 T168 h168 L168 X168 e168 q168 => ?_)
      obtain ⟨rfl, M168, s168⟩ := q168
      replace e168 : T168.heap = h159 := e168.trans s168
      have N168 := Fr.app N159 M168
      show own_Run p e below Φ (T168.setTop (mkF m 116 #[.val (.int p1), .val (.long q2), .second, .val (.long q3), .second, .val (.long q4), .second, .val (.int p5), .val (.int p6), .val (.int (1 : Int32)), .val (.long nn), .second, .val (.long ii), .second, .val (.long jj), .second, .val (.long kk), .second, .val (.ref b128), .unset, .unset, .unset, .unset, .unset] [(.int ((own_upd (own_upd own_z ii p5) jj p6) ii))]))
      refine own_go (fun t k => XS.istore X168.here hx rfl (hb hby at_116) rfl (l' := #[.val (.int p1), .val (.long q2), .second, .val (.long q3), .second, .val (.long q4), .second, .val (.int p5), .val (.int p6), .val (.int (1 : Int32)), .val (.long nn), .second, .val (.long ii), .second, .val (.long jj), .second, .val (.long kk), .second, .val (.ref b128), .val (.int ((own_upd (own_upd own_z ii p5) jj p6) ii)), .unset, .unset, .unset, .unset]) rfl k) ?_
      refine own_go (fun t k => XS.aload X168.here hx rfl (hb hby at_118) rfl rfl  k) ?_
      refine own_go (fun t k => XS.lload X168.here hx rfl (hb hby at_120) rfl  k) ?_
      refine own_callV X168 hx hZ (y := (⟨"com/example/hueline/hueline/model/BigIntArray", "get", "(J)I"⟩ : MethodName)) (z := (⟨"com/example/hueline/hueline/model/BigIntArray", "get", "(J)I"⟩ : MethodName)) (W := 0) (a := b128) (argsL := [(.long jj)]) (rest := []) hown (hw _ (List.mem_of_getElem? (i := 54) rfl)) (hw _ (List.mem_of_getElem? (i := 55) rfl)) (notFace_of_selects (args := #[]) (mvT hZ (hw _ (List.mem_of_getElem? (i := 57) rfl)))) (hw _ (List.mem_of_getElem? (i := 57) rfl)) (hw _ (List.mem_of_getElem? (i := 56) rfl)) (by decide) (own_bk (rm_get3 l Z a0 hw b128 jj b133 x9 k9 x0 k0 x1 k1 x2 k2 zl (own_upd (own_upd own_z ii p5) jj p6) h159 n0 F161 F162 F163 F164 F165 F166 F167 P159_0 P159_1 P159_2 ⟨by omega, by omega⟩ ⟨by omega, by omega⟩) hZ (hw _ (List.mem_of_getElem? (i := 58) rfl)) (hw _ (List.mem_of_getElem? (i := 3) rfl)) (by decide) (by decide)) e168 F169 (g := (mkF m 122 #[.val (.int p1), .val (.long q2), .second, .val (.long q3), .second, .val (.long q4), .second, .val (.int p5), .val (.int p6), .val (.int (1 : Int32)), .val (.long nn), .second, .val (.long ii), .second, .val (.long jj), .second, .val (.long kk), .second, .val (.ref b128), .val (.int ((own_upd (own_upd own_z ii p5) jj p6) ii)), .unset, .unset, .unset, .unset] [(.long jj), (.ref b128)])) rfl (by rw [hml]; rfl) (lenOf pd_3 rfl) rfl (by show 2 * 0 + _ ≤ _; exact Nat.le_of_eq rfl) (hb hby at_122) (by decide) (by decide) (fun v170 T170 h170 L170 X170 e170 q170 => ?_)
      obtain ⟨rfl, M170, s170⟩ := q170
      replace e170 : T170.heap = h159 := e170.trans s170
      have N170 := Fr.app N168 M170
      refine own_go (fun t k => XS.istore X170.here hx rfl (hb hby at_125) rfl (l' := #[.val (.int p1), .val (.long q2), .second, .val (.long q3), .second, .val (.long q4), .second, .val (.int p5), .val (.int p6), .val (.int (1 : Int32)), .val (.long nn), .second, .val (.long ii), .second, .val (.long jj), .second, .val (.long kk), .second, .val (.ref b128), .val (.int ((own_upd (own_upd own_z ii p5) jj p6) ii)), .val (.int ((own_upd (own_upd own_z ii p5) jj p6) jj)), .unset, .unset, .unset]) rfl k) ?_
      show own_Run p e below Φ (T170.setTop (mkF m 127 #[.val (.int p1), .val (.long q2), .second, .val (.long q3), .second, .val (.long q4), .second, .val (.int p5), .val (.int p6), .val (.int (1 : Int32)), .val (.long nn), .second, .val (.long ii), .second, .val (.long jj), .second, .val (.long kk), .second, .val (.ref b128), .val (.int ((own_upd (own_upd own_z ii p5) jj p6) ii)), .val (.int ((own_upd (own_upd own_z ii p5) jj p6) jj)), .unset, .unset, .unset] []))
      refine own_go (fun t k => XS.aload X170.here hx rfl (hb hby at_127) rfl rfl  k) ?_
      refine own_go (fun t k => XS.lload X170.here hx rfl (hb hby at_129) rfl  k) ?_
      refine own_callV X170 hx hZ (y := (⟨"com/example/hueline/hueline/model/BigIntArray", "get", "(J)I"⟩ : MethodName)) (z := (⟨"com/example/hueline/hueline/model/BigIntArray", "get", "(J)I"⟩ : MethodName)) (W := 0) (a := b128) (argsL := [(.long kk)]) (rest := []) hown (hw _ (List.mem_of_getElem? (i := 54) rfl)) (hw _ (List.mem_of_getElem? (i := 55) rfl)) (notFace_of_selects (args := #[]) (mvT hZ (hw _ (List.mem_of_getElem? (i := 57) rfl)))) (hw _ (List.mem_of_getElem? (i := 57) rfl)) (hw _ (List.mem_of_getElem? (i := 56) rfl)) (by decide) (own_bk (rm_get3 l Z a0 hw b128 kk b133 x9 k9 x0 k0 x1 k1 x2 k2 zl (own_upd (own_upd own_z ii p5) jj p6) h159 n0 F161 F162 F163 F164 F165 F166 F167 P159_0 P159_1 P159_2 ⟨by omega, by omega⟩ ⟨by omega, by omega⟩) hZ (hw _ (List.mem_of_getElem? (i := 58) rfl)) (hw _ (List.mem_of_getElem? (i := 3) rfl)) (by decide) (by decide)) e170 F169 (g := (mkF m 131 #[.val (.int p1), .val (.long q2), .second, .val (.long q3), .second, .val (.long q4), .second, .val (.int p5), .val (.int p6), .val (.int (1 : Int32)), .val (.long nn), .second, .val (.long ii), .second, .val (.long jj), .second, .val (.long kk), .second, .val (.ref b128), .val (.int ((own_upd (own_upd own_z ii p5) jj p6) ii)), .val (.int ((own_upd (own_upd own_z ii p5) jj p6) jj)), .unset, .unset, .unset] [(.long kk), (.ref b128)])) rfl (by rw [hml]; rfl) (lenOf pd_3 rfl) rfl (by show 2 * 0 + _ ≤ _; exact Nat.le_of_eq rfl) (hb hby at_131) (by decide) (by decide) (fun v171 T171 h171 L171 X171 e171 q171 => ?_)
      obtain ⟨rfl, M171, s171⟩ := q171
      replace e171 : T171.heap = h159 := e171.trans s171
      have N171 := Fr.app N170 M171
      refine own_go (fun t k => XS.istore X171.here hx rfl (hb hby at_134) rfl (l' := #[.val (.int p1), .val (.long q2), .second, .val (.long q3), .second, .val (.long q4), .second, .val (.int p5), .val (.int p6), .val (.int (1 : Int32)), .val (.long nn), .second, .val (.long ii), .second, .val (.long jj), .second, .val (.long kk), .second, .val (.ref b128), .val (.int ((own_upd (own_upd own_z ii p5) jj p6) ii)), .val (.int ((own_upd (own_upd own_z ii p5) jj p6) jj)), .val (.int ((own_upd (own_upd own_z ii p5) jj p6) kk)), .unset, .unset]) rfl k) ?_
      refine own_go (fun t k => XS.lload X171.here hx rfl (hb hby at_136) rfl  k) ?_
      show own_Run p e below Φ (T171.setTop (mkF m 138 #[.val (.int p1), .val (.long q2), .second, .val (.long q3), .second, .val (.long q4), .second, .val (.int p5), .val (.int p6), .val (.int (1 : Int32)), .val (.long nn), .second, .val (.long ii), .second, .val (.long jj), .second, .val (.long kk), .second, .val (.ref b128), .val (.int ((own_upd (own_upd own_z ii p5) jj p6) ii)), .val (.int ((own_upd (own_upd own_z ii p5) jj p6) jj)), .val (.int ((own_upd (own_upd own_z ii p5) jj p6) kk)), .unset, .unset] [(.long ii)]))
      refine own_go (fun t k => XS.lload X171.here hx rfl (hb hby at_138) rfl  k) ?_
      refine own_go (fun t k => XS.lcmp X171.here hx rfl (hb hby at_140) rfl k) ?_
      by_cases hc141 : (lcmpW ii jj) = (0 : Int32)
      · refine own_go (fun t k => XS.ifNo X171.here hx rfl (hb hby at_141) rfl ((if0 _ _).trans (teq hc141).2) k) ?_
        refine own_go (fun t k => XS.iload X171.here hx rfl (hb hby at_144) rfl  k) ?_
        refine own_go (fun t k => XS.goto X171.here hx rfl (pc0 := 146) (pc' := 151) rfl (hb hby at_146) (by decide) (by decide) k) ?_
        show own_Run p e below Φ (T171.setTop (mkF m 151 #[.val (.int p1), .val (.long q2), .second, .val (.long q3), .second, .val (.long q4), .second, .val (.int p5), .val (.int p6), .val (.int (1 : Int32)), .val (.long nn), .second, .val (.long ii), .second, .val (.long jj), .second, .val (.long kk), .second, .val (.ref b128), .val (.int ((own_upd (own_upd own_z ii p5) jj p6) ii)), .val (.int ((own_upd (own_upd own_z ii p5) jj p6) jj)), .val (.int ((own_upd (own_upd own_z ii p5) jj p6) kk)), .unset, .unset] [(.int p6)]))
        refine own_go (fun t k => XS.istore X171.here hx rfl (hb hby at_151) rfl (l' := #[.val (.int p1), .val (.long q2), .second, .val (.long q3), .second, .val (.long q4), .second, .val (.int p5), .val (.int p6), .val (.int (1 : Int32)), .val (.long nn), .second, .val (.long ii), .second, .val (.long jj), .second, .val (.long kk), .second, .val (.ref b128), .val (.int ((own_upd (own_upd own_z ii p5) jj p6) ii)), .val (.int ((own_upd (own_upd own_z ii p5) jj p6) jj)), .val (.int ((own_upd (own_upd own_z ii p5) jj p6) kk)), .val (.int p6), .unset]) rfl k) ?_
        refine own_go (fun t k => XS.lload X171.here hx rfl (hb hby at_153) rfl  k) ?_
        refine own_go (fun t k => XS.lload X171.here hx rfl (hb hby at_155) rfl  k) ?_
        refine own_go (fun t k => XS.lcmp X171.here hx rfl (hb hby at_157) rfl k) ?_
        by_cases hc158 : (lcmpW kk jj) = (0 : Int32)
        · refine own_go (fun t k => XS.ifNo X171.here hx rfl (hb hby at_158) rfl ((if0 _ _).trans (teq hc158).2) k) ?_
          show own_Run p e below Φ (T171.setTop (mkF m 161 #[.val (.int p1), .val (.long q2), .second, .val (.long q3), .second, .val (.long q4), .second, .val (.int p5), .val (.int p6), .val (.int (1 : Int32)), .val (.long nn), .second, .val (.long ii), .second, .val (.long jj), .second, .val (.long kk), .second, .val (.ref b128), .val (.int ((own_upd (own_upd own_z ii p5) jj p6) ii)), .val (.int ((own_upd (own_upd own_z ii p5) jj p6) jj)), .val (.int ((own_upd (own_upd own_z ii p5) jj p6) kk)), .val (.int p6), .unset] []))
          refine own_go (fun t k => XS.iload X171.here hx rfl (hb hby at_161) rfl  k) ?_
          refine own_go (fun t k => XS.istore X171.here hx rfl (hb hby at_163) rfl (l' := #[.val (.int p1), .val (.long q2), .second, .val (.long q3), .second, .val (.long q4), .second, .val (.int p5), .val (.int p6), .val (.int (1 : Int32)), .val (.long nn), .second, .val (.long ii), .second, .val (.long jj), .second, .val (.long kk), .second, .val (.ref b128), .val (.int ((own_upd (own_upd own_z ii p5) jj p6) ii)), .val (.int ((own_upd (own_upd own_z ii p5) jj p6) jj)), .val (.int ((own_upd (own_upd own_z ii p5) jj p6) kk)), .val (.int p6), .val (.int p6)]) rfl k) ?_
          refine own_go (fun t k => XS.goto X171.here hx rfl (pc0 := 165) (pc' := 186) rfl (hb hby at_165) (by decide) (by decide) k) ?_
          refine own_go (fun t k => XS.iload X171.here hx rfl (hb hby at_186) rfl  k) ?_
          refine own_go (fun t k => XS.iload X171.here hx rfl (hb hby at_188) rfl  k) ?_
          show own_Run p e below Φ (T171.setTop (mkF m 190 #[.val (.int p1), .val (.long q2), .second, .val (.long q3), .second, .val (.long q4), .second, .val (.int p5), .val (.int p6), .val (.int (1 : Int32)), .val (.long nn), .second, .val (.long ii), .second, .val (.long jj), .second, .val (.long kk), .second, .val (.ref b128), .val (.int ((own_upd (own_upd own_z ii p5) jj p6) ii)), .val (.int ((own_upd (own_upd own_z ii p5) jj p6) jj)), .val (.int ((own_upd (own_upd own_z ii p5) jj p6) kk)), .val (.int p6), .val (.int p6)] [(.int p6), (.int ((own_upd (own_upd own_z ii p5) jj p6) ii))]))
          have hc190 : ((own_upd (own_upd own_z ii p5) jj p6) ii) = p6 := (own_u1 hc141)
          refine own_go (fun t k => XS.icmpNo X171.here hx rfl (hb hby at_190) rfl (teq hc190).2 k) ?_
          refine own_go (fun t k => XS.iload X171.here hx rfl (hb hby at_193) rfl  k) ?_
          refine own_go (fun t k => XS.iload X171.here hx rfl (hb hby at_195) rfl  k) ?_
          have hc197 : ((own_upd (own_upd own_z ii p5) jj p6) jj) = p6 := own_u1'
          refine own_go (fun t k => XS.icmpNo X171.here hx rfl (hb hby at_197) rfl (teq hc197).2 k) ?_
          refine own_go (fun t k => XS.iload X171.here hx rfl (hb hby at_200) rfl  k) ?_
          show own_Run p e below Φ (T171.setTop (mkF m 202 #[.val (.int p1), .val (.long q2), .second, .val (.long q3), .second, .val (.long q4), .second, .val (.int p5), .val (.int p6), .val (.int (1 : Int32)), .val (.long nn), .second, .val (.long ii), .second, .val (.long jj), .second, .val (.long kk), .second, .val (.ref b128), .val (.int ((own_upd (own_upd own_z ii p5) jj p6) ii)), .val (.int ((own_upd (own_upd own_z ii p5) jj p6) jj)), .val (.int ((own_upd (own_upd own_z ii p5) jj p6) kk)), .val (.int p6), .val (.int p6)] [(.int ((own_upd (own_upd own_z ii p5) jj p6) kk))]))
          refine own_go (fun t k => XS.iload X171.here hx rfl (hb hby at_202) rfl  k) ?_
          have hc204 : ((own_upd (own_upd own_z ii p5) jj p6) kk) = p6 := (own_u1 hc158)
          refine own_go (fun t k => XS.icmpNo X171.here hx rfl (hb hby at_204) rfl (teq hc204).2 k) ?_
          refine own_go (fun t k => XS.aload X171.here hx rfl (hb hby at_207) rfl rfl  k) ?_
          have F172 : Fld Z h159 b128 "com/example/hueline/hueline/model/BigIntArray" "length" "J" (.long nn) := ((P146_1.keep K150 (ninS ne_b128_x0 (ninS ne_b128_x1 (ninS ne_b128_x2 nin0)))).keep K159 (ninS ne_b128_x0 (ninS ne_b128_x1 (ninS ne_b128_x2 nin0))))
          refine own_callV X171 hx hZ (y := (⟨"com/example/hueline/hueline/model/BigIntArray", "length", "()J"⟩ : MethodName)) (z := (⟨"com/example/hueline/hueline/model/BigIntArray", "length", "()J"⟩ : MethodName)) (W := 0) (a := b128) (argsL := []) (rest := []) hown (hw _ (List.mem_of_getElem? (i := 59) rfl)) (hw _ (List.mem_of_getElem? (i := 60) rfl)) (notFace_of_selects (args := #[]) (mvT hZ (hw _ (List.mem_of_getElem? (i := 62) rfl)))) (hw _ (List.mem_of_getElem? (i := 62) rfl)) (hw _ (List.mem_of_getElem? (i := 61) rfl)) (by decide) (own_bk (rm_ln l Z a0 hw b128 nn h159 n0 F172) hZ (hw _ (List.mem_of_getElem? (i := 63) rfl)) (hw _ (List.mem_of_getElem? (i := 3) rfl)) (by decide) (by decide)) e171 F169 (g := (mkF m 209 #[.val (.int p1), .val (.long q2), .second, .val (.long q3), .second, .val (.long q4), .second, .val (.int p5), .val (.int p6), .val (.int (1 : Int32)), .val (.long nn), .second, .val (.long ii), .second, .val (.long jj), .second, .val (.long kk), .second, .val (.ref b128), .val (.int ((own_upd (own_upd own_z ii p5) jj p6) ii)), .val (.int ((own_upd (own_upd own_z ii p5) jj p6) jj)), .val (.int ((own_upd (own_upd own_z ii p5) jj p6) kk)), .val (.int p6), .val (.int p6)] [(.ref b128)])) rfl (by rw [hml]; rfl) (lenOf pd_7 rfl) rfl (by show 2 * 0 + _ ≤ _; exact Nat.le_of_eq rfl) (hb hby at_209) (by decide) (by decide) (fun v173 T173 h173 L173 X173 e173 q173 => ?_)
          obtain ⟨rfl, M173, s173⟩ := q173
          replace e173 : T173.heap = h159 := e173.trans s173
          have N173 := Fr.app N171 M173
          refine own_go (fun t k => XS.lload X173.here hx rfl (hb hby at_212) rfl  k) ?_
          show own_Run p e below Φ (T173.setTop (mkF m 214 #[.val (.int p1), .val (.long q2), .second, .val (.long q3), .second, .val (.long q4), .second, .val (.int p5), .val (.int p6), .val (.int (1 : Int32)), .val (.long nn), .second, .val (.long ii), .second, .val (.long jj), .second, .val (.long kk), .second, .val (.ref b128), .val (.int ((own_upd (own_upd own_z ii p5) jj p6) ii)), .val (.int ((own_upd (own_upd own_z ii p5) jj p6) jj)), .val (.int ((own_upd (own_upd own_z ii p5) jj p6) kk)), .val (.int p6), .val (.int p6)] [(.long nn), (.long nn)]))
          refine own_go (fun t k => XS.lcmp X173.here hx rfl (hb hby at_214) rfl k) ?_
          have hc215 : (lcmpW nn nn) = (0 : Int32) := ((lw_eq _ _).mpr rfl)
          refine own_go (fun t k => XS.ifNo X173.here hx rfl (hb hby at_215) rfl ((if0 _ _).trans (teq hc215).2) k) ?_
          refine own_go (fun t k => XS.iconst X173.here hx rfl (hb hby at_218) k) ?_
          refine own_go (fun t k => XS.goto X173.here hx rfl (pc0 := 219) (pc' := 223) rfl (hb hby at_219) (by decide) (by decide) k) ?_
          subst hΦ
          exact own_retN X173 hx (t := .boolean) Bd.returns (by simp) hlk (hb hby at_223) e173 ⟨rfl, N173⟩ (by decide) (by decide)
        · refine own_go (fun t k => XS.ifYes X171.here hx rfl (pc0 := 158) (pc' := 168) rfl (hb hby at_158) rfl ((if0 _ _).trans (feq hc158).2) (by decide) (by decide) k) ?_
          show own_Run p e below Φ (T171.setTop (mkF m 168 #[.val (.int p1), .val (.long q2), .second, .val (.long q3), .second, .val (.long q4), .second, .val (.int p5), .val (.int p6), .val (.int (1 : Int32)), .val (.long nn), .second, .val (.long ii), .second, .val (.long jj), .second, .val (.long kk), .second, .val (.ref b128), .val (.int ((own_upd (own_upd own_z ii p5) jj p6) ii)), .val (.int ((own_upd (own_upd own_z ii p5) jj p6) jj)), .val (.int ((own_upd (own_upd own_z ii p5) jj p6) kk)), .val (.int p6), .unset] []))
          refine own_go (fun t k => XS.lload X171.here hx rfl (hb hby at_168) rfl  k) ?_
          refine own_go (fun t k => XS.lload X171.here hx rfl (hb hby at_170) rfl  k) ?_
          refine own_go (fun t k => XS.lcmp X171.here hx rfl (hb hby at_172) rfl k) ?_
          by_cases hc173 : (lcmpW kk ii) = (0 : Int32)
          · refine own_go (fun t k => XS.ifNo X171.here hx rfl (hb hby at_173) rfl ((if0 _ _).trans (teq hc173).2) k) ?_
            refine own_go (fun t k => XS.iload X171.here hx rfl (hb hby at_176) rfl  k) ?_
            show own_Run p e below Φ (T171.setTop (mkF m 178 #[.val (.int p1), .val (.long q2), .second, .val (.long q3), .second, .val (.long q4), .second, .val (.int p5), .val (.int p6), .val (.int (1 : Int32)), .val (.long nn), .second, .val (.long ii), .second, .val (.long jj), .second, .val (.long kk), .second, .val (.ref b128), .val (.int ((own_upd (own_upd own_z ii p5) jj p6) ii)), .val (.int ((own_upd (own_upd own_z ii p5) jj p6) jj)), .val (.int ((own_upd (own_upd own_z ii p5) jj p6) kk)), .val (.int p6), .unset] [(.int p5)]))
            refine own_go (fun t k => XS.istore X171.here hx rfl (hb hby at_178) rfl (l' := #[.val (.int p1), .val (.long q2), .second, .val (.long q3), .second, .val (.long q4), .second, .val (.int p5), .val (.int p6), .val (.int (1 : Int32)), .val (.long nn), .second, .val (.long ii), .second, .val (.long jj), .second, .val (.long kk), .second, .val (.ref b128), .val (.int ((own_upd (own_upd own_z ii p5) jj p6) ii)), .val (.int ((own_upd (own_upd own_z ii p5) jj p6) jj)), .val (.int ((own_upd (own_upd own_z ii p5) jj p6) kk)), .val (.int p6), .val (.int p5)]) rfl k) ?_
            refine own_go (fun t k => XS.goto X171.here hx rfl (pc0 := 180) (pc' := 186) rfl (hb hby at_180) (by decide) (by decide) k) ?_
            refine own_go (fun t k => XS.iload X171.here hx rfl (hb hby at_186) rfl  k) ?_
            refine own_go (fun t k => XS.iload X171.here hx rfl (hb hby at_188) rfl  k) ?_
            have hc190 : ((own_upd (own_upd own_z ii p5) jj p6) ii) = p6 := (own_u1 hc141)
            refine own_go (fun t k => XS.icmpNo X171.here hx rfl (hb hby at_190) rfl (teq hc190).2 k) ?_
            show own_Run p e below Φ (T171.setTop (mkF m 193 #[.val (.int p1), .val (.long q2), .second, .val (.long q3), .second, .val (.long q4), .second, .val (.int p5), .val (.int p6), .val (.int (1 : Int32)), .val (.long nn), .second, .val (.long ii), .second, .val (.long jj), .second, .val (.long kk), .second, .val (.ref b128), .val (.int ((own_upd (own_upd own_z ii p5) jj p6) ii)), .val (.int ((own_upd (own_upd own_z ii p5) jj p6) jj)), .val (.int ((own_upd (own_upd own_z ii p5) jj p6) kk)), .val (.int p6), .val (.int p5)] []))
            refine own_go (fun t k => XS.iload X171.here hx rfl (hb hby at_193) rfl  k) ?_
            refine own_go (fun t k => XS.iload X171.here hx rfl (hb hby at_195) rfl  k) ?_
            have hc197 : ((own_upd (own_upd own_z ii p5) jj p6) jj) = p6 := own_u1'
            refine own_go (fun t k => XS.icmpNo X171.here hx rfl (hb hby at_197) rfl (teq hc197).2 k) ?_
            refine own_go (fun t k => XS.iload X171.here hx rfl (hb hby at_200) rfl  k) ?_
            refine own_go (fun t k => XS.iload X171.here hx rfl (hb hby at_202) rfl  k) ?_
            show own_Run p e below Φ (T171.setTop (mkF m 204 #[.val (.int p1), .val (.long q2), .second, .val (.long q3), .second, .val (.long q4), .second, .val (.int p5), .val (.int p6), .val (.int (1 : Int32)), .val (.long nn), .second, .val (.long ii), .second, .val (.long jj), .second, .val (.long kk), .second, .val (.ref b128), .val (.int ((own_upd (own_upd own_z ii p5) jj p6) ii)), .val (.int ((own_upd (own_upd own_z ii p5) jj p6) jj)), .val (.int ((own_upd (own_upd own_z ii p5) jj p6) kk)), .val (.int p6), .val (.int p5)] [(.int p5), (.int ((own_upd (own_upd own_z ii p5) jj p6) kk))]))
            have hc204 : ((own_upd (own_upd own_z ii p5) jj p6) kk) = p5 := ((own_u2 hc158).trans (own_u1 hc173))
            refine own_go (fun t k => XS.icmpNo X171.here hx rfl (hb hby at_204) rfl (teq hc204).2 k) ?_
            refine own_go (fun t k => XS.aload X171.here hx rfl (hb hby at_207) rfl rfl  k) ?_
            have F174 : Fld Z h159 b128 "com/example/hueline/hueline/model/BigIntArray" "length" "J" (.long nn) := ((P146_1.keep K150 (ninS ne_b128_x0 (ninS ne_b128_x1 (ninS ne_b128_x2 nin0)))).keep K159 (ninS ne_b128_x0 (ninS ne_b128_x1 (ninS ne_b128_x2 nin0))))
            refine own_callV X171 hx hZ (y := (⟨"com/example/hueline/hueline/model/BigIntArray", "length", "()J"⟩ : MethodName)) (z := (⟨"com/example/hueline/hueline/model/BigIntArray", "length", "()J"⟩ : MethodName)) (W := 0) (a := b128) (argsL := []) (rest := []) hown (hw _ (List.mem_of_getElem? (i := 59) rfl)) (hw _ (List.mem_of_getElem? (i := 60) rfl)) (notFace_of_selects (args := #[]) (mvT hZ (hw _ (List.mem_of_getElem? (i := 62) rfl)))) (hw _ (List.mem_of_getElem? (i := 62) rfl)) (hw _ (List.mem_of_getElem? (i := 61) rfl)) (by decide) (own_bk (rm_ln l Z a0 hw b128 nn h159 n0 F174) hZ (hw _ (List.mem_of_getElem? (i := 63) rfl)) (hw _ (List.mem_of_getElem? (i := 3) rfl)) (by decide) (by decide)) e171 F169 (g := (mkF m 209 #[.val (.int p1), .val (.long q2), .second, .val (.long q3), .second, .val (.long q4), .second, .val (.int p5), .val (.int p6), .val (.int (1 : Int32)), .val (.long nn), .second, .val (.long ii), .second, .val (.long jj), .second, .val (.long kk), .second, .val (.ref b128), .val (.int ((own_upd (own_upd own_z ii p5) jj p6) ii)), .val (.int ((own_upd (own_upd own_z ii p5) jj p6) jj)), .val (.int ((own_upd (own_upd own_z ii p5) jj p6) kk)), .val (.int p6), .val (.int p5)] [(.ref b128)])) rfl (by rw [hml]; rfl) (lenOf pd_7 rfl) rfl (by show 2 * 0 + _ ≤ _; exact Nat.le_of_eq rfl) (hb hby at_209) (by decide) (by decide) (fun v175 T175 h175 L175 X175 e175 q175 => ?_)
            obtain ⟨rfl, M175, s175⟩ := q175
            replace e175 : T175.heap = h159 := e175.trans s175
            have N175 := Fr.app N171 M175
            refine own_go (fun t k => XS.lload X175.here hx rfl (hb hby at_212) rfl  k) ?_
            refine own_go (fun t k => XS.lcmp X175.here hx rfl (hb hby at_214) rfl k) ?_
            show own_Run p e below Φ (T175.setTop (mkF m 215 #[.val (.int p1), .val (.long q2), .second, .val (.long q3), .second, .val (.long q4), .second, .val (.int p5), .val (.int p6), .val (.int (1 : Int32)), .val (.long nn), .second, .val (.long ii), .second, .val (.long jj), .second, .val (.long kk), .second, .val (.ref b128), .val (.int ((own_upd (own_upd own_z ii p5) jj p6) ii)), .val (.int ((own_upd (own_upd own_z ii p5) jj p6) jj)), .val (.int ((own_upd (own_upd own_z ii p5) jj p6) kk)), .val (.int p6), .val (.int p5)] [(.int (lcmpW nn nn))]))
            have hc215 : (lcmpW nn nn) = (0 : Int32) := ((lw_eq _ _).mpr rfl)
            refine own_go (fun t k => XS.ifNo X175.here hx rfl (hb hby at_215) rfl ((if0 _ _).trans (teq hc215).2) k) ?_
            refine own_go (fun t k => XS.iconst X175.here hx rfl (hb hby at_218) k) ?_
            refine own_go (fun t k => XS.goto X175.here hx rfl (pc0 := 219) (pc' := 223) rfl (hb hby at_219) (by decide) (by decide) k) ?_
            subst hΦ
            exact own_retN X175 hx (t := .boolean) Bd.returns (by simp) hlk (hb hby at_223) e175 ⟨rfl, N175⟩ (by decide) (by decide)
          · refine own_go (fun t k => XS.ifYes X171.here hx rfl (pc0 := 173) (pc' := 183) rfl (hb hby at_173) rfl ((if0 _ _).trans (feq hc173).2) (by decide) (by decide) k) ?_
            refine own_go (fun t k => XS.iconst X171.here hx rfl (hb hby at_183) k) ?_
            show own_Run p e below Φ (T171.setTop (mkF m 184 #[.val (.int p1), .val (.long q2), .second, .val (.long q3), .second, .val (.long q4), .second, .val (.int p5), .val (.int p6), .val (.int (1 : Int32)), .val (.long nn), .second, .val (.long ii), .second, .val (.long jj), .second, .val (.long kk), .second, .val (.ref b128), .val (.int ((own_upd (own_upd own_z ii p5) jj p6) ii)), .val (.int ((own_upd (own_upd own_z ii p5) jj p6) jj)), .val (.int ((own_upd (own_upd own_z ii p5) jj p6) kk)), .val (.int p6), .unset] [(.int (0 : Int32))]))
            refine own_go (fun t k => XS.istore X171.here hx rfl (hb hby at_184) rfl (l' := #[.val (.int p1), .val (.long q2), .second, .val (.long q3), .second, .val (.long q4), .second, .val (.int p5), .val (.int p6), .val (.int (1 : Int32)), .val (.long nn), .second, .val (.long ii), .second, .val (.long jj), .second, .val (.long kk), .second, .val (.ref b128), .val (.int ((own_upd (own_upd own_z ii p5) jj p6) ii)), .val (.int ((own_upd (own_upd own_z ii p5) jj p6) jj)), .val (.int ((own_upd (own_upd own_z ii p5) jj p6) kk)), .val (.int p6), .val (.int (0 : Int32))]) rfl k) ?_
            refine own_go (fun t k => XS.iload X171.here hx rfl (hb hby at_186) rfl  k) ?_
            refine own_go (fun t k => XS.iload X171.here hx rfl (hb hby at_188) rfl  k) ?_
            have hc190 : ((own_upd (own_upd own_z ii p5) jj p6) ii) = p6 := (own_u1 hc141)
            refine own_go (fun t k => XS.icmpNo X171.here hx rfl (hb hby at_190) rfl (teq hc190).2 k) ?_
            refine own_go (fun t k => XS.iload X171.here hx rfl (hb hby at_193) rfl  k) ?_
            show own_Run p e below Φ (T171.setTop (mkF m 195 #[.val (.int p1), .val (.long q2), .second, .val (.long q3), .second, .val (.long q4), .second, .val (.int p5), .val (.int p6), .val (.int (1 : Int32)), .val (.long nn), .second, .val (.long ii), .second, .val (.long jj), .second, .val (.long kk), .second, .val (.ref b128), .val (.int ((own_upd (own_upd own_z ii p5) jj p6) ii)), .val (.int ((own_upd (own_upd own_z ii p5) jj p6) jj)), .val (.int ((own_upd (own_upd own_z ii p5) jj p6) kk)), .val (.int p6), .val (.int (0 : Int32))] [(.int ((own_upd (own_upd own_z ii p5) jj p6) jj))]))
            refine own_go (fun t k => XS.iload X171.here hx rfl (hb hby at_195) rfl  k) ?_
            have hc197 : ((own_upd (own_upd own_z ii p5) jj p6) jj) = p6 := own_u1'
            refine own_go (fun t k => XS.icmpNo X171.here hx rfl (hb hby at_197) rfl (teq hc197).2 k) ?_
            refine own_go (fun t k => XS.iload X171.here hx rfl (hb hby at_200) rfl  k) ?_
            refine own_go (fun t k => XS.iload X171.here hx rfl (hb hby at_202) rfl  k) ?_
            have hc204 : ((own_upd (own_upd own_z ii p5) jj p6) kk) = (0 : Int32) := ((own_u2 hc158).trans (own_u2 hc173))
            refine own_go (fun t k => XS.icmpNo X171.here hx rfl (hb hby at_204) rfl (teq hc204).2 k) ?_
            show own_Run p e below Φ (T171.setTop (mkF m 207 #[.val (.int p1), .val (.long q2), .second, .val (.long q3), .second, .val (.long q4), .second, .val (.int p5), .val (.int p6), .val (.int (1 : Int32)), .val (.long nn), .second, .val (.long ii), .second, .val (.long jj), .second, .val (.long kk), .second, .val (.ref b128), .val (.int ((own_upd (own_upd own_z ii p5) jj p6) ii)), .val (.int ((own_upd (own_upd own_z ii p5) jj p6) jj)), .val (.int ((own_upd (own_upd own_z ii p5) jj p6) kk)), .val (.int p6), .val (.int (0 : Int32))] []))
            refine own_go (fun t k => XS.aload X171.here hx rfl (hb hby at_207) rfl rfl  k) ?_
            have F176 : Fld Z h159 b128 "com/example/hueline/hueline/model/BigIntArray" "length" "J" (.long nn) := ((P146_1.keep K150 (ninS ne_b128_x0 (ninS ne_b128_x1 (ninS ne_b128_x2 nin0)))).keep K159 (ninS ne_b128_x0 (ninS ne_b128_x1 (ninS ne_b128_x2 nin0))))
            refine own_callV X171 hx hZ (y := (⟨"com/example/hueline/hueline/model/BigIntArray", "length", "()J"⟩ : MethodName)) (z := (⟨"com/example/hueline/hueline/model/BigIntArray", "length", "()J"⟩ : MethodName)) (W := 0) (a := b128) (argsL := []) (rest := []) hown (hw _ (List.mem_of_getElem? (i := 59) rfl)) (hw _ (List.mem_of_getElem? (i := 60) rfl)) (notFace_of_selects (args := #[]) (mvT hZ (hw _ (List.mem_of_getElem? (i := 62) rfl)))) (hw _ (List.mem_of_getElem? (i := 62) rfl)) (hw _ (List.mem_of_getElem? (i := 61) rfl)) (by decide) (own_bk (rm_ln l Z a0 hw b128 nn h159 n0 F176) hZ (hw _ (List.mem_of_getElem? (i := 63) rfl)) (hw _ (List.mem_of_getElem? (i := 3) rfl)) (by decide) (by decide)) e171 F169 (g := (mkF m 209 #[.val (.int p1), .val (.long q2), .second, .val (.long q3), .second, .val (.long q4), .second, .val (.int p5), .val (.int p6), .val (.int (1 : Int32)), .val (.long nn), .second, .val (.long ii), .second, .val (.long jj), .second, .val (.long kk), .second, .val (.ref b128), .val (.int ((own_upd (own_upd own_z ii p5) jj p6) ii)), .val (.int ((own_upd (own_upd own_z ii p5) jj p6) jj)), .val (.int ((own_upd (own_upd own_z ii p5) jj p6) kk)), .val (.int p6), .val (.int (0 : Int32))] [(.ref b128)])) rfl (by rw [hml]; rfl) (lenOf pd_7 rfl) rfl (by show 2 * 0 + _ ≤ _; exact Nat.le_of_eq rfl) (hb hby at_209) (by decide) (by decide) (fun v177 T177 h177 L177 X177 e177 q177 => ?_)
            obtain ⟨rfl, M177, s177⟩ := q177
            replace e177 : T177.heap = h159 := e177.trans s177
            have N177 := Fr.app N171 M177
            refine own_go (fun t k => XS.lload X177.here hx rfl (hb hby at_212) rfl  k) ?_
            refine own_go (fun t k => XS.lcmp X177.here hx rfl (hb hby at_214) rfl k) ?_
            have hc215 : (lcmpW nn nn) = (0 : Int32) := ((lw_eq _ _).mpr rfl)
            refine own_go (fun t k => XS.ifNo X177.here hx rfl (hb hby at_215) rfl ((if0 _ _).trans (teq hc215).2) k) ?_
            show own_Run p e below Φ (T177.setTop (mkF m 218 #[.val (.int p1), .val (.long q2), .second, .val (.long q3), .second, .val (.long q4), .second, .val (.int p5), .val (.int p6), .val (.int (1 : Int32)), .val (.long nn), .second, .val (.long ii), .second, .val (.long jj), .second, .val (.long kk), .second, .val (.ref b128), .val (.int ((own_upd (own_upd own_z ii p5) jj p6) ii)), .val (.int ((own_upd (own_upd own_z ii p5) jj p6) jj)), .val (.int ((own_upd (own_upd own_z ii p5) jj p6) kk)), .val (.int p6), .val (.int (0 : Int32))] []))
            refine own_go (fun t k => XS.iconst X177.here hx rfl (hb hby at_218) k) ?_
            refine own_go (fun t k => XS.goto X177.here hx rfl (pc0 := 219) (pc' := 223) rfl (hb hby at_219) (by decide) (by decide) k) ?_
            subst hΦ
            exact own_retN X177 hx (t := .boolean) Bd.returns (by simp) hlk (hb hby at_223) e177 ⟨rfl, N177⟩ (by decide) (by decide)
      · refine own_go (fun t k => XS.ifYes X171.here hx rfl (pc0 := 141) (pc' := 149) rfl (hb hby at_141) rfl ((if0 _ _).trans (feq hc141).2) (by decide) (by decide) k) ?_
        refine own_go (fun t k => XS.iload X171.here hx rfl (hb hby at_149) rfl  k) ?_
        refine own_go (fun t k => XS.istore X171.here hx rfl (hb hby at_151) rfl (l' := #[.val (.int p1), .val (.long q2), .second, .val (.long q3), .second, .val (.long q4), .second, .val (.int p5), .val (.int p6), .val (.int (1 : Int32)), .val (.long nn), .second, .val (.long ii), .second, .val (.long jj), .second, .val (.long kk), .second, .val (.ref b128), .val (.int ((own_upd (own_upd own_z ii p5) jj p6) ii)), .val (.int ((own_upd (own_upd own_z ii p5) jj p6) jj)), .val (.int ((own_upd (own_upd own_z ii p5) jj p6) kk)), .val (.int p5), .unset]) rfl k) ?_
        show own_Run p e below Φ (T171.setTop (mkF m 153 #[.val (.int p1), .val (.long q2), .second, .val (.long q3), .second, .val (.long q4), .second, .val (.int p5), .val (.int p6), .val (.int (1 : Int32)), .val (.long nn), .second, .val (.long ii), .second, .val (.long jj), .second, .val (.long kk), .second, .val (.ref b128), .val (.int ((own_upd (own_upd own_z ii p5) jj p6) ii)), .val (.int ((own_upd (own_upd own_z ii p5) jj p6) jj)), .val (.int ((own_upd (own_upd own_z ii p5) jj p6) kk)), .val (.int p5), .unset] []))
        refine own_go (fun t k => XS.lload X171.here hx rfl (hb hby at_153) rfl  k) ?_
        refine own_go (fun t k => XS.lload X171.here hx rfl (hb hby at_155) rfl  k) ?_
        refine own_go (fun t k => XS.lcmp X171.here hx rfl (hb hby at_157) rfl k) ?_
        by_cases hc158 : (lcmpW kk jj) = (0 : Int32)
        · refine own_go (fun t k => XS.ifNo X171.here hx rfl (hb hby at_158) rfl ((if0 _ _).trans (teq hc158).2) k) ?_
          refine own_go (fun t k => XS.iload X171.here hx rfl (hb hby at_161) rfl  k) ?_
          show own_Run p e below Φ (T171.setTop (mkF m 163 #[.val (.int p1), .val (.long q2), .second, .val (.long q3), .second, .val (.long q4), .second, .val (.int p5), .val (.int p6), .val (.int (1 : Int32)), .val (.long nn), .second, .val (.long ii), .second, .val (.long jj), .second, .val (.long kk), .second, .val (.ref b128), .val (.int ((own_upd (own_upd own_z ii p5) jj p6) ii)), .val (.int ((own_upd (own_upd own_z ii p5) jj p6) jj)), .val (.int ((own_upd (own_upd own_z ii p5) jj p6) kk)), .val (.int p5), .unset] [(.int p6)]))
          refine own_go (fun t k => XS.istore X171.here hx rfl (hb hby at_163) rfl (l' := #[.val (.int p1), .val (.long q2), .second, .val (.long q3), .second, .val (.long q4), .second, .val (.int p5), .val (.int p6), .val (.int (1 : Int32)), .val (.long nn), .second, .val (.long ii), .second, .val (.long jj), .second, .val (.long kk), .second, .val (.ref b128), .val (.int ((own_upd (own_upd own_z ii p5) jj p6) ii)), .val (.int ((own_upd (own_upd own_z ii p5) jj p6) jj)), .val (.int ((own_upd (own_upd own_z ii p5) jj p6) kk)), .val (.int p5), .val (.int p6)]) rfl k) ?_
          refine own_go (fun t k => XS.goto X171.here hx rfl (pc0 := 165) (pc' := 186) rfl (hb hby at_165) (by decide) (by decide) k) ?_
          refine own_go (fun t k => XS.iload X171.here hx rfl (hb hby at_186) rfl  k) ?_
          refine own_go (fun t k => XS.iload X171.here hx rfl (hb hby at_188) rfl  k) ?_
          have hc190 : ((own_upd (own_upd own_z ii p5) jj p6) ii) = p5 := ((own_u2 hc141).trans own_u1')
          refine own_go (fun t k => XS.icmpNo X171.here hx rfl (hb hby at_190) rfl (teq hc190).2 k) ?_
          show own_Run p e below Φ (T171.setTop (mkF m 193 #[.val (.int p1), .val (.long q2), .second, .val (.long q3), .second, .val (.long q4), .second, .val (.int p5), .val (.int p6), .val (.int (1 : Int32)), .val (.long nn), .second, .val (.long ii), .second, .val (.long jj), .second, .val (.long kk), .second, .val (.ref b128), .val (.int ((own_upd (own_upd own_z ii p5) jj p6) ii)), .val (.int ((own_upd (own_upd own_z ii p5) jj p6) jj)), .val (.int ((own_upd (own_upd own_z ii p5) jj p6) kk)), .val (.int p5), .val (.int p6)] []))
          refine own_go (fun t k => XS.iload X171.here hx rfl (hb hby at_193) rfl  k) ?_
          refine own_go (fun t k => XS.iload X171.here hx rfl (hb hby at_195) rfl  k) ?_
          have hc197 : ((own_upd (own_upd own_z ii p5) jj p6) jj) = p6 := own_u1'
          refine own_go (fun t k => XS.icmpNo X171.here hx rfl (hb hby at_197) rfl (teq hc197).2 k) ?_
          refine own_go (fun t k => XS.iload X171.here hx rfl (hb hby at_200) rfl  k) ?_
          refine own_go (fun t k => XS.iload X171.here hx rfl (hb hby at_202) rfl  k) ?_
          show own_Run p e below Φ (T171.setTop (mkF m 204 #[.val (.int p1), .val (.long q2), .second, .val (.long q3), .second, .val (.long q4), .second, .val (.int p5), .val (.int p6), .val (.int (1 : Int32)), .val (.long nn), .second, .val (.long ii), .second, .val (.long jj), .second, .val (.long kk), .second, .val (.ref b128), .val (.int ((own_upd (own_upd own_z ii p5) jj p6) ii)), .val (.int ((own_upd (own_upd own_z ii p5) jj p6) jj)), .val (.int ((own_upd (own_upd own_z ii p5) jj p6) kk)), .val (.int p5), .val (.int p6)] [(.int p6), (.int ((own_upd (own_upd own_z ii p5) jj p6) kk))]))
          have hc204 : ((own_upd (own_upd own_z ii p5) jj p6) kk) = p6 := (own_u1 hc158)
          refine own_go (fun t k => XS.icmpNo X171.here hx rfl (hb hby at_204) rfl (teq hc204).2 k) ?_
          refine own_go (fun t k => XS.aload X171.here hx rfl (hb hby at_207) rfl rfl  k) ?_
          have F178 : Fld Z h159 b128 "com/example/hueline/hueline/model/BigIntArray" "length" "J" (.long nn) := ((P146_1.keep K150 (ninS ne_b128_x0 (ninS ne_b128_x1 (ninS ne_b128_x2 nin0)))).keep K159 (ninS ne_b128_x0 (ninS ne_b128_x1 (ninS ne_b128_x2 nin0))))
          refine own_callV X171 hx hZ (y := (⟨"com/example/hueline/hueline/model/BigIntArray", "length", "()J"⟩ : MethodName)) (z := (⟨"com/example/hueline/hueline/model/BigIntArray", "length", "()J"⟩ : MethodName)) (W := 0) (a := b128) (argsL := []) (rest := []) hown (hw _ (List.mem_of_getElem? (i := 59) rfl)) (hw _ (List.mem_of_getElem? (i := 60) rfl)) (notFace_of_selects (args := #[]) (mvT hZ (hw _ (List.mem_of_getElem? (i := 62) rfl)))) (hw _ (List.mem_of_getElem? (i := 62) rfl)) (hw _ (List.mem_of_getElem? (i := 61) rfl)) (by decide) (own_bk (rm_ln l Z a0 hw b128 nn h159 n0 F178) hZ (hw _ (List.mem_of_getElem? (i := 63) rfl)) (hw _ (List.mem_of_getElem? (i := 3) rfl)) (by decide) (by decide)) e171 F169 (g := (mkF m 209 #[.val (.int p1), .val (.long q2), .second, .val (.long q3), .second, .val (.long q4), .second, .val (.int p5), .val (.int p6), .val (.int (1 : Int32)), .val (.long nn), .second, .val (.long ii), .second, .val (.long jj), .second, .val (.long kk), .second, .val (.ref b128), .val (.int ((own_upd (own_upd own_z ii p5) jj p6) ii)), .val (.int ((own_upd (own_upd own_z ii p5) jj p6) jj)), .val (.int ((own_upd (own_upd own_z ii p5) jj p6) kk)), .val (.int p5), .val (.int p6)] [(.ref b128)])) rfl (by rw [hml]; rfl) (lenOf pd_7 rfl) rfl (by show 2 * 0 + _ ≤ _; exact Nat.le_of_eq rfl) (hb hby at_209) (by decide) (by decide) (fun v179 T179 h179 L179 X179 e179 q179 => ?_)
          obtain ⟨rfl, M179, s179⟩ := q179
          replace e179 : T179.heap = h159 := e179.trans s179
          have N179 := Fr.app N171 M179
          refine own_go (fun t k => XS.lload X179.here hx rfl (hb hby at_212) rfl  k) ?_
          refine own_go (fun t k => XS.lcmp X179.here hx rfl (hb hby at_214) rfl k) ?_
          show own_Run p e below Φ (T179.setTop (mkF m 215 #[.val (.int p1), .val (.long q2), .second, .val (.long q3), .second, .val (.long q4), .second, .val (.int p5), .val (.int p6), .val (.int (1 : Int32)), .val (.long nn), .second, .val (.long ii), .second, .val (.long jj), .second, .val (.long kk), .second, .val (.ref b128), .val (.int ((own_upd (own_upd own_z ii p5) jj p6) ii)), .val (.int ((own_upd (own_upd own_z ii p5) jj p6) jj)), .val (.int ((own_upd (own_upd own_z ii p5) jj p6) kk)), .val (.int p5), .val (.int p6)] [(.int (lcmpW nn nn))]))
          have hc215 : (lcmpW nn nn) = (0 : Int32) := ((lw_eq _ _).mpr rfl)
          refine own_go (fun t k => XS.ifNo X179.here hx rfl (hb hby at_215) rfl ((if0 _ _).trans (teq hc215).2) k) ?_
          refine own_go (fun t k => XS.iconst X179.here hx rfl (hb hby at_218) k) ?_
          refine own_go (fun t k => XS.goto X179.here hx rfl (pc0 := 219) (pc' := 223) rfl (hb hby at_219) (by decide) (by decide) k) ?_
          subst hΦ
          exact own_retN X179 hx (t := .boolean) Bd.returns (by simp) hlk (hb hby at_223) e179 ⟨rfl, N179⟩ (by decide) (by decide)
        · refine own_go (fun t k => XS.ifYes X171.here hx rfl (pc0 := 158) (pc' := 168) rfl (hb hby at_158) rfl ((if0 _ _).trans (feq hc158).2) (by decide) (by decide) k) ?_
          refine own_go (fun t k => XS.lload X171.here hx rfl (hb hby at_168) rfl  k) ?_
          show own_Run p e below Φ (T171.setTop (mkF m 170 #[.val (.int p1), .val (.long q2), .second, .val (.long q3), .second, .val (.long q4), .second, .val (.int p5), .val (.int p6), .val (.int (1 : Int32)), .val (.long nn), .second, .val (.long ii), .second, .val (.long jj), .second, .val (.long kk), .second, .val (.ref b128), .val (.int ((own_upd (own_upd own_z ii p5) jj p6) ii)), .val (.int ((own_upd (own_upd own_z ii p5) jj p6) jj)), .val (.int ((own_upd (own_upd own_z ii p5) jj p6) kk)), .val (.int p5), .unset] [(.long kk)]))
          refine own_go (fun t k => XS.lload X171.here hx rfl (hb hby at_170) rfl  k) ?_
          refine own_go (fun t k => XS.lcmp X171.here hx rfl (hb hby at_172) rfl k) ?_
          by_cases hc173 : (lcmpW kk ii) = (0 : Int32)
          · refine own_go (fun t k => XS.ifNo X171.here hx rfl (hb hby at_173) rfl ((if0 _ _).trans (teq hc173).2) k) ?_
            refine own_go (fun t k => XS.iload X171.here hx rfl (hb hby at_176) rfl  k) ?_
            refine own_go (fun t k => XS.istore X171.here hx rfl (hb hby at_178) rfl (l' := #[.val (.int p1), .val (.long q2), .second, .val (.long q3), .second, .val (.long q4), .second, .val (.int p5), .val (.int p6), .val (.int (1 : Int32)), .val (.long nn), .second, .val (.long ii), .second, .val (.long jj), .second, .val (.long kk), .second, .val (.ref b128), .val (.int ((own_upd (own_upd own_z ii p5) jj p6) ii)), .val (.int ((own_upd (own_upd own_z ii p5) jj p6) jj)), .val (.int ((own_upd (own_upd own_z ii p5) jj p6) kk)), .val (.int p5), .val (.int p5)]) rfl k) ?_
            show own_Run p e below Φ (T171.setTop (mkF m 180 #[.val (.int p1), .val (.long q2), .second, .val (.long q3), .second, .val (.long q4), .second, .val (.int p5), .val (.int p6), .val (.int (1 : Int32)), .val (.long nn), .second, .val (.long ii), .second, .val (.long jj), .second, .val (.long kk), .second, .val (.ref b128), .val (.int ((own_upd (own_upd own_z ii p5) jj p6) ii)), .val (.int ((own_upd (own_upd own_z ii p5) jj p6) jj)), .val (.int ((own_upd (own_upd own_z ii p5) jj p6) kk)), .val (.int p5), .val (.int p5)] []))
            refine own_go (fun t k => XS.goto X171.here hx rfl (pc0 := 180) (pc' := 186) rfl (hb hby at_180) (by decide) (by decide) k) ?_
            refine own_go (fun t k => XS.iload X171.here hx rfl (hb hby at_186) rfl  k) ?_
            refine own_go (fun t k => XS.iload X171.here hx rfl (hb hby at_188) rfl  k) ?_
            have hc190 : ((own_upd (own_upd own_z ii p5) jj p6) ii) = p5 := ((own_u2 hc141).trans own_u1')
            refine own_go (fun t k => XS.icmpNo X171.here hx rfl (hb hby at_190) rfl (teq hc190).2 k) ?_
            refine own_go (fun t k => XS.iload X171.here hx rfl (hb hby at_193) rfl  k) ?_
            show own_Run p e below Φ (T171.setTop (mkF m 195 #[.val (.int p1), .val (.long q2), .second, .val (.long q3), .second, .val (.long q4), .second, .val (.int p5), .val (.int p6), .val (.int (1 : Int32)), .val (.long nn), .second, .val (.long ii), .second, .val (.long jj), .second, .val (.long kk), .second, .val (.ref b128), .val (.int ((own_upd (own_upd own_z ii p5) jj p6) ii)), .val (.int ((own_upd (own_upd own_z ii p5) jj p6) jj)), .val (.int ((own_upd (own_upd own_z ii p5) jj p6) kk)), .val (.int p5), .val (.int p5)] [(.int ((own_upd (own_upd own_z ii p5) jj p6) jj))]))
            refine own_go (fun t k => XS.iload X171.here hx rfl (hb hby at_195) rfl  k) ?_
            have hc197 : ((own_upd (own_upd own_z ii p5) jj p6) jj) = p6 := own_u1'
            refine own_go (fun t k => XS.icmpNo X171.here hx rfl (hb hby at_197) rfl (teq hc197).2 k) ?_
            refine own_go (fun t k => XS.iload X171.here hx rfl (hb hby at_200) rfl  k) ?_
            refine own_go (fun t k => XS.iload X171.here hx rfl (hb hby at_202) rfl  k) ?_
            have hc204 : ((own_upd (own_upd own_z ii p5) jj p6) kk) = p5 := ((own_u2 hc158).trans (own_u1 hc173))
            refine own_go (fun t k => XS.icmpNo X171.here hx rfl (hb hby at_204) rfl (teq hc204).2 k) ?_
            show own_Run p e below Φ (T171.setTop (mkF m 207 #[.val (.int p1), .val (.long q2), .second, .val (.long q3), .second, .val (.long q4), .second, .val (.int p5), .val (.int p6), .val (.int (1 : Int32)), .val (.long nn), .second, .val (.long ii), .second, .val (.long jj), .second, .val (.long kk), .second, .val (.ref b128), .val (.int ((own_upd (own_upd own_z ii p5) jj p6) ii)), .val (.int ((own_upd (own_upd own_z ii p5) jj p6) jj)), .val (.int ((own_upd (own_upd own_z ii p5) jj p6) kk)), .val (.int p5), .val (.int p5)] []))
            refine own_go (fun t k => XS.aload X171.here hx rfl (hb hby at_207) rfl rfl  k) ?_
            have F180 : Fld Z h159 b128 "com/example/hueline/hueline/model/BigIntArray" "length" "J" (.long nn) := ((P146_1.keep K150 (ninS ne_b128_x0 (ninS ne_b128_x1 (ninS ne_b128_x2 nin0)))).keep K159 (ninS ne_b128_x0 (ninS ne_b128_x1 (ninS ne_b128_x2 nin0))))
            refine own_callV X171 hx hZ (y := (⟨"com/example/hueline/hueline/model/BigIntArray", "length", "()J"⟩ : MethodName)) (z := (⟨"com/example/hueline/hueline/model/BigIntArray", "length", "()J"⟩ : MethodName)) (W := 0) (a := b128) (argsL := []) (rest := []) hown (hw _ (List.mem_of_getElem? (i := 59) rfl)) (hw _ (List.mem_of_getElem? (i := 60) rfl)) (notFace_of_selects (args := #[]) (mvT hZ (hw _ (List.mem_of_getElem? (i := 62) rfl)))) (hw _ (List.mem_of_getElem? (i := 62) rfl)) (hw _ (List.mem_of_getElem? (i := 61) rfl)) (by decide) (own_bk (rm_ln l Z a0 hw b128 nn h159 n0 F180) hZ (hw _ (List.mem_of_getElem? (i := 63) rfl)) (hw _ (List.mem_of_getElem? (i := 3) rfl)) (by decide) (by decide)) e171 F169 (g := (mkF m 209 #[.val (.int p1), .val (.long q2), .second, .val (.long q3), .second, .val (.long q4), .second, .val (.int p5), .val (.int p6), .val (.int (1 : Int32)), .val (.long nn), .second, .val (.long ii), .second, .val (.long jj), .second, .val (.long kk), .second, .val (.ref b128), .val (.int ((own_upd (own_upd own_z ii p5) jj p6) ii)), .val (.int ((own_upd (own_upd own_z ii p5) jj p6) jj)), .val (.int ((own_upd (own_upd own_z ii p5) jj p6) kk)), .val (.int p5), .val (.int p5)] [(.ref b128)])) rfl (by rw [hml]; rfl) (lenOf pd_7 rfl) rfl (by show 2 * 0 + _ ≤ _; exact Nat.le_of_eq rfl) (hb hby at_209) (by decide) (by decide) (fun v181 T181 h181 L181 X181 e181 q181 => ?_)
            obtain ⟨rfl, M181, s181⟩ := q181
            replace e181 : T181.heap = h159 := e181.trans s181
            have N181 := Fr.app N171 M181
            refine own_go (fun t k => XS.lload X181.here hx rfl (hb hby at_212) rfl  k) ?_
            refine own_go (fun t k => XS.lcmp X181.here hx rfl (hb hby at_214) rfl k) ?_
            have hc215 : (lcmpW nn nn) = (0 : Int32) := ((lw_eq _ _).mpr rfl)
            refine own_go (fun t k => XS.ifNo X181.here hx rfl (hb hby at_215) rfl ((if0 _ _).trans (teq hc215).2) k) ?_
            show own_Run p e below Φ (T181.setTop (mkF m 218 #[.val (.int p1), .val (.long q2), .second, .val (.long q3), .second, .val (.long q4), .second, .val (.int p5), .val (.int p6), .val (.int (1 : Int32)), .val (.long nn), .second, .val (.long ii), .second, .val (.long jj), .second, .val (.long kk), .second, .val (.ref b128), .val (.int ((own_upd (own_upd own_z ii p5) jj p6) ii)), .val (.int ((own_upd (own_upd own_z ii p5) jj p6) jj)), .val (.int ((own_upd (own_upd own_z ii p5) jj p6) kk)), .val (.int p5), .val (.int p5)] []))
            refine own_go (fun t k => XS.iconst X181.here hx rfl (hb hby at_218) k) ?_
            refine own_go (fun t k => XS.goto X181.here hx rfl (pc0 := 219) (pc' := 223) rfl (hb hby at_219) (by decide) (by decide) k) ?_
            subst hΦ
            exact own_retN X181 hx (t := .boolean) Bd.returns (by simp) hlk (hb hby at_223) e181 ⟨rfl, N181⟩ (by decide) (by decide)
          · refine own_go (fun t k => XS.ifYes X171.here hx rfl (pc0 := 173) (pc' := 183) rfl (hb hby at_173) rfl ((if0 _ _).trans (feq hc173).2) (by decide) (by decide) k) ?_
            refine own_go (fun t k => XS.iconst X171.here hx rfl (hb hby at_183) k) ?_
            refine own_go (fun t k => XS.istore X171.here hx rfl (hb hby at_184) rfl (l' := #[.val (.int p1), .val (.long q2), .second, .val (.long q3), .second, .val (.long q4), .second, .val (.int p5), .val (.int p6), .val (.int (1 : Int32)), .val (.long nn), .second, .val (.long ii), .second, .val (.long jj), .second, .val (.long kk), .second, .val (.ref b128), .val (.int ((own_upd (own_upd own_z ii p5) jj p6) ii)), .val (.int ((own_upd (own_upd own_z ii p5) jj p6) jj)), .val (.int ((own_upd (own_upd own_z ii p5) jj p6) kk)), .val (.int p5), .val (.int (0 : Int32))]) rfl k) ?_
            show own_Run p e below Φ (T171.setTop (mkF m 186 #[.val (.int p1), .val (.long q2), .second, .val (.long q3), .second, .val (.long q4), .second, .val (.int p5), .val (.int p6), .val (.int (1 : Int32)), .val (.long nn), .second, .val (.long ii), .second, .val (.long jj), .second, .val (.long kk), .second, .val (.ref b128), .val (.int ((own_upd (own_upd own_z ii p5) jj p6) ii)), .val (.int ((own_upd (own_upd own_z ii p5) jj p6) jj)), .val (.int ((own_upd (own_upd own_z ii p5) jj p6) kk)), .val (.int p5), .val (.int (0 : Int32))] []))
            refine own_go (fun t k => XS.iload X171.here hx rfl (hb hby at_186) rfl  k) ?_
            refine own_go (fun t k => XS.iload X171.here hx rfl (hb hby at_188) rfl  k) ?_
            have hc190 : ((own_upd (own_upd own_z ii p5) jj p6) ii) = p5 := ((own_u2 hc141).trans own_u1')
            refine own_go (fun t k => XS.icmpNo X171.here hx rfl (hb hby at_190) rfl (teq hc190).2 k) ?_
            refine own_go (fun t k => XS.iload X171.here hx rfl (hb hby at_193) rfl  k) ?_
            refine own_go (fun t k => XS.iload X171.here hx rfl (hb hby at_195) rfl  k) ?_
            show own_Run p e below Φ (T171.setTop (mkF m 197 #[.val (.int p1), .val (.long q2), .second, .val (.long q3), .second, .val (.long q4), .second, .val (.int p5), .val (.int p6), .val (.int (1 : Int32)), .val (.long nn), .second, .val (.long ii), .second, .val (.long jj), .second, .val (.long kk), .second, .val (.ref b128), .val (.int ((own_upd (own_upd own_z ii p5) jj p6) ii)), .val (.int ((own_upd (own_upd own_z ii p5) jj p6) jj)), .val (.int ((own_upd (own_upd own_z ii p5) jj p6) kk)), .val (.int p5), .val (.int (0 : Int32))] [(.int p6), (.int ((own_upd (own_upd own_z ii p5) jj p6) jj))]))
            have hc197 : ((own_upd (own_upd own_z ii p5) jj p6) jj) = p6 := own_u1'
            refine own_go (fun t k => XS.icmpNo X171.here hx rfl (hb hby at_197) rfl (teq hc197).2 k) ?_
            refine own_go (fun t k => XS.iload X171.here hx rfl (hb hby at_200) rfl  k) ?_
            refine own_go (fun t k => XS.iload X171.here hx rfl (hb hby at_202) rfl  k) ?_
            have hc204 : ((own_upd (own_upd own_z ii p5) jj p6) kk) = (0 : Int32) := ((own_u2 hc158).trans (own_u2 hc173))
            refine own_go (fun t k => XS.icmpNo X171.here hx rfl (hb hby at_204) rfl (teq hc204).2 k) ?_
            refine own_go (fun t k => XS.aload X171.here hx rfl (hb hby at_207) rfl rfl  k) ?_
            show own_Run p e below Φ (T171.setTop (mkF m 209 #[.val (.int p1), .val (.long q2), .second, .val (.long q3), .second, .val (.long q4), .second, .val (.int p5), .val (.int p6), .val (.int (1 : Int32)), .val (.long nn), .second, .val (.long ii), .second, .val (.long jj), .second, .val (.long kk), .second, .val (.ref b128), .val (.int ((own_upd (own_upd own_z ii p5) jj p6) ii)), .val (.int ((own_upd (own_upd own_z ii p5) jj p6) jj)), .val (.int ((own_upd (own_upd own_z ii p5) jj p6) kk)), .val (.int p5), .val (.int (0 : Int32))] [(.ref b128)]))
            have F182 : Fld Z h159 b128 "com/example/hueline/hueline/model/BigIntArray" "length" "J" (.long nn) := ((P146_1.keep K150 (ninS ne_b128_x0 (ninS ne_b128_x1 (ninS ne_b128_x2 nin0)))).keep K159 (ninS ne_b128_x0 (ninS ne_b128_x1 (ninS ne_b128_x2 nin0))))
            refine own_callV X171 hx hZ (y := (⟨"com/example/hueline/hueline/model/BigIntArray", "length", "()J"⟩ : MethodName)) (z := (⟨"com/example/hueline/hueline/model/BigIntArray", "length", "()J"⟩ : MethodName)) (W := 0) (a := b128) (argsL := []) (rest := []) hown (hw _ (List.mem_of_getElem? (i := 59) rfl)) (hw _ (List.mem_of_getElem? (i := 60) rfl)) (notFace_of_selects (args := #[]) (mvT hZ (hw _ (List.mem_of_getElem? (i := 62) rfl)))) (hw _ (List.mem_of_getElem? (i := 62) rfl)) (hw _ (List.mem_of_getElem? (i := 61) rfl)) (by decide) (own_bk (rm_ln l Z a0 hw b128 nn h159 n0 F182) hZ (hw _ (List.mem_of_getElem? (i := 63) rfl)) (hw _ (List.mem_of_getElem? (i := 3) rfl)) (by decide) (by decide)) e171 F169 (g := (mkF m 209 #[.val (.int p1), .val (.long q2), .second, .val (.long q3), .second, .val (.long q4), .second, .val (.int p5), .val (.int p6), .val (.int (1 : Int32)), .val (.long nn), .second, .val (.long ii), .second, .val (.long jj), .second, .val (.long kk), .second, .val (.ref b128), .val (.int ((own_upd (own_upd own_z ii p5) jj p6) ii)), .val (.int ((own_upd (own_upd own_z ii p5) jj p6) jj)), .val (.int ((own_upd (own_upd own_z ii p5) jj p6) kk)), .val (.int p5), .val (.int (0 : Int32))] [(.ref b128)])) rfl (by rw [hml]; rfl) (lenOf pd_7 rfl) rfl (by show 2 * 0 + _ ≤ _; exact Nat.le_of_eq rfl) (hb hby at_209) (by decide) (by decide) (fun v183 T183 h183 L183 X183 e183 q183 => ?_)
            obtain ⟨rfl, M183, s183⟩ := q183
            replace e183 : T183.heap = h159 := e183.trans s183
            have N183 := Fr.app N171 M183
            refine own_go (fun t k => XS.lload X183.here hx rfl (hb hby at_212) rfl  k) ?_
            refine own_go (fun t k => XS.lcmp X183.here hx rfl (hb hby at_214) rfl k) ?_
            have hc215 : (lcmpW nn nn) = (0 : Int32) := ((lw_eq _ _).mpr rfl)
            refine own_go (fun t k => XS.ifNo X183.here hx rfl (hb hby at_215) rfl ((if0 _ _).trans (teq hc215).2) k) ?_
            refine own_go (fun t k => XS.iconst X183.here hx rfl (hb hby at_218) k) ?_
            show own_Run p e below Φ (T183.setTop (mkF m 219 #[.val (.int p1), .val (.long q2), .second, .val (.long q3), .second, .val (.long q4), .second, .val (.int p5), .val (.int p6), .val (.int (1 : Int32)), .val (.long nn), .second, .val (.long ii), .second, .val (.long jj), .second, .val (.long kk), .second, .val (.ref b128), .val (.int ((own_upd (own_upd own_z ii p5) jj p6) ii)), .val (.int ((own_upd (own_upd own_z ii p5) jj p6) jj)), .val (.int ((own_upd (own_upd own_z ii p5) jj p6) kk)), .val (.int p5), .val (.int (0 : Int32))] [(.int (1 : Int32))]))
            refine own_go (fun t k => XS.goto X183.here hx rfl (pc0 := 219) (pc' := 223) rfl (hb hby at_219) (by decide) (by decide) k) ?_
            subst hΦ
            exact own_retN X183 hx (t := .boolean) Bd.returns (by simp) hlk (hb hby at_223) e183 ⟨rfl, N183⟩ (by decide) (by decide)
    · obtain ⟨zl, hzl⟩ := own_ex (n := nn) 12 (by decide) (by omega)
      show own_Run p e below Φ (s₁.setTop (mkF m 60 #[.val (.int p1), .val (.long q2), .second, .val (.long q3), .second, .val (.long q4), .second, .val (.int p5), .val (.int p6), .val (.int (1 : Int32)), .val (.long nn), .second, .val (.long ii), .second, .val (.long jj), .second, .val (.long kk), .second, .unset, .unset, .unset, .unset, .unset, .unset] []))
      obtain ⟨T184, h184, X184, e184, E184, A184, D184, -, st184⟩ := newO X0 hx hZ hown (hw _ (List.mem_of_getElem? (i := 1) rfl)) (hw _ (List.mem_of_getElem? (i := 2) rfl)) (hw _ (List.mem_of_getElem? (i := 3) rfl)) e0 (g := (mkF m 60 #[.val (.int p1), .val (.long q2), .second, .val (.long q3), .second, .val (.long q4), .second, .val (.int p5), .val (.int p6), .val (.int (1 : Int32)), .val (.long nn), .second, .val (.long ii), .second, .val (.long jj), .second, .val (.long kk), .second, .unset, .unset, .unset, .unset, .unset, .unset] [])) rfl (hb hby at_60) (by decide) (by decide)
      refine own_go st184 ?_
      obtain ⟨b184, g184⟩ : ∃ z, z = h0.size := ⟨_, rfl⟩
      rw [← g184] at A184 D184 ⊢
      have G185 : Fld Z h184 b184 "com/example/hueline/hueline/model/BigIntArray" "layout" "Lcom/example/hueline/hueline/model/Pages;" .null := D184 (Or.inr (hw _ (List.mem_of_getElem? (i := 17) rfl))) (ty := (.object "com/example/hueline/hueline/model/Pages")) (by decide)
      have G186 : Fld Z h184 b184 "com/example/hueline/hueline/model/BigIntArray" "pages" "[[I" .null := D184 (Or.inl (hw _ (List.mem_of_getElem? (i := 31) rfl))) (ty := (.array (.array .int))) (by decide)
      have G187 : Fld Z h184 b184 "com/example/hueline/hueline/model/BigIntArray" "length" "J" (.long (0 : Int64)) := D184 (Or.inl (hw _ (List.mem_of_getElem? (i := 33) rfl))) (ty := .long) (by decide)
      have G188 : Fld Z h184 b184 "com/example/hueline/hueline/model/BigIntArray" "flat" "[I" .null := D184 (Or.inl (hw _ (List.mem_of_getElem? (i := 48) rfl))) (ty := (.array .int)) (by decide)
      refine own_go (fun t k => XS.dup X184.here hx rfl (hb hby at_63) rfl rfl k) ?_
      refine own_go (fun t k => XS.lload X184.here hx rfl (hb hby at_64) rfl  k) ?_
      have F190 : n0 ≤ h184.size := (Nat.le_trans Z0 E184.1)
      obtain ⟨T189, h189, X189, e189, E189, A189, D189, -, st189⟩ := newO X184 hx hZ hown (hw _ (List.mem_of_getElem? (i := 64) rfl)) (hw _ (List.mem_of_getElem? (i := 65) rfl)) (hw _ (List.mem_of_getElem? (i := 8) rfl)) e184 (g := (mkF m 66 #[.val (.int p1), .val (.long q2), .second, .val (.long q3), .second, .val (.long q4), .second, .val (.int p5), .val (.int p6), .val (.int (1 : Int32)), .val (.long nn), .second, .val (.long ii), .second, .val (.long jj), .second, .val (.long kk), .second, .unset, .unset, .unset, .unset, .unset, .unset] [(.long nn), (.ref b184), (.ref b184)])) rfl (hb hby at_66) (by decide) (by decide)
      refine own_go st189 ?_
      obtain ⟨b189, g189⟩ : ∃ z, z = h184.size := ⟨_, rfl⟩
      rw [← g189] at A189 D189 ⊢
      have ne_b184_b189 : b184 ≠ b189 := Nat.ne_of_lt (Nat.lt_of_lt_of_le A184.lt (Nat.le_of_eq g189.symm))
      have G191 : Fld Z h189 b189 "com/example/hueline/hueline/model/Pages" "mask" "I" (.int (0 : Int32)) := D189 (Or.inr (hw _ (List.mem_of_getElem? (i := 24) rfl))) (ty := .int) (by decide)
      have G192 : Fld Z h189 b189 "com/example/hueline/hueline/model/Pages" "shift" "I" (.int (0 : Int32)) := D189 (Or.inr (hw _ (List.mem_of_getElem? (i := 26) rfl))) (ty := .int) (by decide)
      have G193 : Fld Z h189 b189 "com/example/hueline/hueline/model/Pages" "length" "I" (.int (0 : Int32)) := D189 (Or.inr (hw _ (List.mem_of_getElem? (i := 40) rfl))) (ty := .int) (by decide)
      show own_Run p e below Φ (T189.setTop (mkF m 69 #[.val (.int p1), .val (.long q2), .second, .val (.long q3), .second, .val (.long q4), .second, .val (.int p5), .val (.int p6), .val (.int (1 : Int32)), .val (.long nn), .second, .val (.long ii), .second, .val (.long jj), .second, .val (.long kk), .second, .unset, .unset, .unset, .unset, .unset, .unset] [(.ref b189), (.long nn), (.ref b184), (.ref b184)]))
      refine own_go (fun t k => XS.dup X189.here hx rfl (hb hby at_69) rfl rfl k) ?_
      refine own_go (fun t k => XS.iconst X189.here hx rfl (hb hby at_70) k) ?_
      refine own_callI X189 hx hZ (y := (⟨"com/example/hueline/hueline/model/Pages", "<init>", "(I)V"⟩ : MethodName)) (W := 5) (a := b189) (argsL := [(.int (2 : Int32))]) (rest := [(.ref b189), (.long nn), (.ref b184), (.ref b184)]) rfl hown (hw _ (List.mem_of_getElem? (i := 66) rfl)) (hw _ (List.mem_of_getElem? (i := 67) rfl)) (hw _ (List.mem_of_getElem? (i := 68) rfl)) (by decide) (own_bk (rm_pi l Z a0 hw b189 h189 n0 A189 G191 G192 G193 (Nat.le_trans F190 (Nat.le_of_eq g189.symm))) hZ (hw _ (List.mem_of_getElem? (i := 68) rfl)) (hw _ (List.mem_of_getElem? (i := 8) rfl)) (by decide) (by decide)) e189 (g := (mkF m 71 #[.val (.int p1), .val (.long q2), .second, .val (.long q3), .second, .val (.long q4), .second, .val (.int p5), .val (.int p6), .val (.int (1 : Int32)), .val (.long nn), .second, .val (.long ii), .second, .val (.long jj), .second, .val (.long kk), .second, .unset, .unset, .unset, .unset, .unset, .unset] [(.int (2 : Int32)), (.ref b189), (.ref b189), (.long nn), (.ref b184), (.ref b184)])) rfl (by rw [hml]; rfl) (lenOf pd_8 rfl) rfl (by show 2 * 0 + _ ≤ _; exact Nat.le_of_eq rfl) (hb hby at_71) (by decide) (by decide) (fun v194 T194 h194 L194 X194 e194 q194 => ?_)
      obtain ⟨rfl, M194, K194, P194_0, P194_1, P194_2⟩ := q194
      have N194 := Fr.app N0 M194
      have F195 : Exa Z h194 b184 "com/example/hueline/hueline/model/BigIntArray" := ((A184.ext E189).keep K194)
      have F196 : Exa Z h194 b189 "com/example/hueline/hueline/model/Pages" := (A189.keep K194)
      have F197 : Fld Z h194 b184 "com/example/hueline/hueline/model/BigIntArray" "layout" "Lcom/example/hueline/hueline/model/Pages;" .null := ((G185.ext E189).keep K194 (ninS ne_b184_b189 nin0))
      have F198 : Fld Z h194 b184 "com/example/hueline/hueline/model/BigIntArray" "pages" "[[I" .null := ((G186.ext E189).keep K194 (ninS ne_b184_b189 nin0))
      have F199 : Fld Z h194 b184 "com/example/hueline/hueline/model/BigIntArray" "length" "J" (.long (0 : Int64)) := ((G187.ext E189).keep K194 (ninS ne_b184_b189 nin0))
      have F200 : Fld Z h194 b184 "com/example/hueline/hueline/model/BigIntArray" "flat" "[I" .null := ((G188.ext E189).keep K194 (ninS ne_b184_b189 nin0))
      have F201 : n0 ≤ h194.size := (Nat.le_trans (Nat.le_trans F190 E189.1) K194.1)
      refine own_callI X194 hx hZ (y := (⟨"com/example/hueline/hueline/model/BigIntArray", "<init>", "(JLcom/example/hueline/hueline/model/Pages;)V"⟩ : MethodName)) (W := 1) (a := b184) (argsL := [(.long nn), (.ref b189)]) (rest := [(.ref b184)]) rfl hown (hw _ (List.mem_of_getElem? (i := 70) rfl)) (hw _ (List.mem_of_getElem? (i := 11) rfl)) (hw _ (List.mem_of_getElem? (i := 12) rfl)) (by decide) (own_bk (rm_ct4 l Z a0 hw b184 nn b189 zl h194 n0 F195 F197 F198 F199 F200 (Nat.le_trans Z0 (Nat.le_of_eq g184.symm)) F201 F196 P194_2 P194_0 P194_1 (Ne.symm ne_b184_b189) ⟨by omega, by omega⟩ (by omega)) hZ (hw _ (List.mem_of_getElem? (i := 12) rfl)) (hw _ (List.mem_of_getElem? (i := 3) rfl)) (by decide) (by decide)) e194 (g := (mkF m 74 #[.val (.int p1), .val (.long q2), .second, .val (.long q3), .second, .val (.long q4), .second, .val (.int p5), .val (.int p6), .val (.int (1 : Int32)), .val (.long nn), .second, .val (.long ii), .second, .val (.long jj), .second, .val (.long kk), .second, .unset, .unset, .unset, .unset, .unset, .unset] [(.ref b189), (.long nn), (.ref b184), (.ref b184)])) rfl (by rw [hml]; rfl) (lenOf pd_1 rfl) rfl (by show 2 * 0 + _ ≤ _; exact Nat.le_of_eq rfl) (hb hby at_74) (by decide) (by decide) (fun v202 T202 h202 L202 X202 e202 q202 => ?_)
      obtain ⟨rfl, M202, K202, P202_0, P202_1, P202_2, P202_3⟩ := q202
      have N202 := Fr.app N194 M202
      obtain ⟨x9, k9, x0, k0, x1, k1, x2, k2, x3, k3, gx9, zx9, gx0, zx0, gx1, zx1, gx2, zx2, gx3, zx3, nx9x0, nx9x1, nx9x2, nx9x3, nx0x1, nx0x2, nx0x3, nx1x2, nx1x3, nx2x3, FF, V9, Vx0, Vx1, Vx2, Vx3⟩ := P202_3
      have ne_b184_x9 : b184 ≠ x9 := Nat.ne_of_lt (Nat.lt_of_lt_of_le F195.lt zx9)
      have ne_b189_x9 : b189 ≠ x9 := Nat.ne_of_lt (Nat.lt_of_lt_of_le F196.lt zx9)
      have ne_b184_x0 : b184 ≠ x0 := Nat.ne_of_lt (Nat.lt_of_lt_of_le F195.lt zx0)
      have ne_b189_x0 : b189 ≠ x0 := Nat.ne_of_lt (Nat.lt_of_lt_of_le F196.lt zx0)
      have ne_b184_x1 : b184 ≠ x1 := Nat.ne_of_lt (Nat.lt_of_lt_of_le F195.lt zx1)
      have ne_b189_x1 : b189 ≠ x1 := Nat.ne_of_lt (Nat.lt_of_lt_of_le F196.lt zx1)
      have ne_b184_x2 : b184 ≠ x2 := Nat.ne_of_lt (Nat.lt_of_lt_of_le F195.lt zx2)
      have ne_b189_x2 : b189 ≠ x2 := Nat.ne_of_lt (Nat.lt_of_lt_of_le F196.lt zx2)
      have ne_b184_x3 : b184 ≠ x3 := Nat.ne_of_lt (Nat.lt_of_lt_of_le F195.lt zx3)
      have ne_b189_x3 : b189 ≠ x3 := Nat.ne_of_lt (Nat.lt_of_lt_of_le F196.lt zx3)
      refine own_go (fun t k => XS.goto X202.here hx rfl (pc0 := 77) (pc' := 89) rfl (hb hby at_77) (by decide) (by decide) k) ?_
      show own_Run p e below Φ (T202.setTop (mkF m 89 #[.val (.int p1), .val (.long q2), .second, .val (.long q3), .second, .val (.long q4), .second, .val (.int p5), .val (.int p6), .val (.int (1 : Int32)), .val (.long nn), .second, .val (.long ii), .second, .val (.long jj), .second, .val (.long kk), .second, .unset, .unset, .unset, .unset, .unset, .unset] [(.ref b184)]))
      refine own_go (fun t k => XS.astore X202.here hx rfl (hb hby at_89) rfl rfl (l' := #[.val (.int p1), .val (.long q2), .second, .val (.long q3), .second, .val (.long q4), .second, .val (.int p5), .val (.int p6), .val (.int (1 : Int32)), .val (.long nn), .second, .val (.long ii), .second, .val (.long jj), .second, .val (.long kk), .second, .val (.ref b184), .unset, .unset, .unset, .unset, .unset]) rfl k) ?_
      refine own_go (fun t k => XS.aload X202.here hx rfl (hb hby at_91) rfl rfl  k) ?_
      refine own_go (fun t k => XS.lload X202.here hx rfl (hb hby at_93) rfl  k) ?_
      refine own_go (fun t k => XS.iload X202.here hx rfl (hb hby at_95) rfl  k) ?_
      have F203 : Exa Z h202 b189 "com/example/hueline/hueline/model/Pages" := (F196.keep K202)
      have F204 : Fld Z h202 b189 "com/example/hueline/hueline/model/Pages" "shift" "I" (.int (2 : Int32)) := (P194_0.keep K202 (ninS (Ne.symm ne_b184_b189) nin0))
      have F205 : Fld Z h202 b189 "com/example/hueline/hueline/model/Pages" "mask" "I" (.int (3 : Int32)) := (P194_2.keep K202 (ninS (Ne.symm ne_b184_b189) nin0))
      have F207 : Exa Z h202 b184 "com/example/hueline/hueline/model/BigIntArray" := (F195.keep K202)
      refine own_callV X202 hx hZ (y := (⟨"com/example/hueline/hueline/model/BigIntArray", "set", "(JI)V"⟩ : MethodName)) (z := (⟨"com/example/hueline/hueline/model/BigIntArray", "set", "(JI)V"⟩ : MethodName)) (W := 0) (a := b184) (argsL := [(.long ii), (.int p5)]) (rest := []) hown (hw _ (List.mem_of_getElem? (i := 49) rfl)) (hw _ (List.mem_of_getElem? (i := 50) rfl)) (notFace_of_selects (args := #[]) (mvT hZ (hw _ (List.mem_of_getElem? (i := 52) rfl)))) (hw _ (List.mem_of_getElem? (i := 52) rfl)) (hw _ (List.mem_of_getElem? (i := 51) rfl)) (by decide) (own_bk (rm_set4 l Z a0 hw b184 ii p5 b189 x9 k9 x0 k0 x1 k1 x2 k2 x3 k3 zl own_z h202 n0 P202_2 FF P202_0 F203 F204 F205 V9 Vx0 Vx1 Vx2 Vx3 ⟨by omega, by omega⟩ ⟨by omega, by omega⟩ gx0 gx1 gx2 gx3 nx0x1 nx0x2 nx0x3 nx1x2 nx1x3 nx2x3 ne_b189_x0 ne_b189_x1 ne_b189_x2 ne_b189_x3) hZ (hw _ (List.mem_of_getElem? (i := 53) rfl)) (hw _ (List.mem_of_getElem? (i := 3) rfl)) (by decide) (by decide)) e202 F207 (g := (mkF m 97 #[.val (.int p1), .val (.long q2), .second, .val (.long q3), .second, .val (.long q4), .second, .val (.int p5), .val (.int p6), .val (.int (1 : Int32)), .val (.long nn), .second, .val (.long ii), .second, .val (.long jj), .second, .val (.long kk), .second, .val (.ref b184), .unset, .unset, .unset, .unset, .unset] [(.int p5), (.long ii), (.ref b184)])) rfl (by rw [hml]; rfl) (lenOf pd_6 rfl) rfl (by show 2 * 0 + _ ≤ _; exact Nat.le_of_eq rfl) (hb hby at_97) (by decide) (by decide) (fun v206 T206 h206 L206 X206 e206 q206 => ?_)
      obtain ⟨rfl, M206, K206, P206_0, P206_1, P206_2, P206_3⟩ := q206
      have N206 := Fr.app N202 M206
      show own_Run p e below Φ (T206.setTop (mkF m 100 #[.val (.int p1), .val (.long q2), .second, .val (.long q3), .second, .val (.long q4), .second, .val (.int p5), .val (.int p6), .val (.int (1 : Int32)), .val (.long nn), .second, .val (.long ii), .second, .val (.long jj), .second, .val (.long kk), .second, .val (.ref b184), .unset, .unset, .unset, .unset, .unset] []))
      refine own_go (fun t k => XS.aload X206.here hx rfl (hb hby at_100) rfl rfl  k) ?_
      refine own_go (fun t k => XS.lload X206.here hx rfl (hb hby at_102) rfl  k) ?_
      refine own_go (fun t k => XS.iload X206.here hx rfl (hb hby at_104) rfl  k) ?_
      have F208 : Fld Z h206 b184 "com/example/hueline/hueline/model/BigIntArray" "flat" "[I" .null := (P202_2.keep K206 (ninS ne_b184_x0 (ninS ne_b184_x1 (ninS ne_b184_x2 (ninS ne_b184_x3 nin0)))))
      have F209 : Fld Z h206 b184 "com/example/hueline/hueline/model/BigIntArray" "pages" "[[I" (.ref x9) := (FF.keep K206 (ninS ne_b184_x0 (ninS ne_b184_x1 (ninS ne_b184_x2 (ninS ne_b184_x3 nin0)))))
      have F210 : Fld Z h206 b184 "com/example/hueline/hueline/model/BigIntArray" "layout" "Lcom/example/hueline/hueline/model/Pages;" (.ref b189) := (P202_0.keep K206 (ninS ne_b184_x0 (ninS ne_b184_x1 (ninS ne_b184_x2 (ninS ne_b184_x3 nin0)))))
      have F211 : Exa Z h206 b189 "com/example/hueline/hueline/model/Pages" := (F203.keep K206)
      have F212 : Fld Z h206 b189 "com/example/hueline/hueline/model/Pages" "shift" "I" (.int (2 : Int32)) := (F204.keep K206 (ninS ne_b189_x0 (ninS ne_b189_x1 (ninS ne_b189_x2 (ninS ne_b189_x3 nin0)))))
      have F213 : Fld Z h206 b189 "com/example/hueline/hueline/model/Pages" "mask" "I" (.int (3 : Int32)) := (F205.keep K206 (ninS ne_b189_x0 (ninS ne_b189_x1 (ninS ne_b189_x2 (ninS ne_b189_x3 nin0)))))
      have F214 : Arv Z h206 x9 k9 (.array .int) (4 : Int32) [(.ref x0), (.ref x1), (.ref x2), (.ref x3)] .null := (V9.keep K206 (ninS nx9x0 (ninS nx9x1 (ninS nx9x2 (ninS nx9x3 nin0)))))
      have F216 : Exa Z h206 b184 "com/example/hueline/hueline/model/BigIntArray" := (F207.keep K206)
      refine own_callV X206 hx hZ (y := (⟨"com/example/hueline/hueline/model/BigIntArray", "set", "(JI)V"⟩ : MethodName)) (z := (⟨"com/example/hueline/hueline/model/BigIntArray", "set", "(JI)V"⟩ : MethodName)) (W := 0) (a := b184) (argsL := [(.long jj), (.int p6)]) (rest := []) hown (hw _ (List.mem_of_getElem? (i := 49) rfl)) (hw _ (List.mem_of_getElem? (i := 50) rfl)) (notFace_of_selects (args := #[]) (mvT hZ (hw _ (List.mem_of_getElem? (i := 52) rfl)))) (hw _ (List.mem_of_getElem? (i := 52) rfl)) (hw _ (List.mem_of_getElem? (i := 51) rfl)) (by decide) (own_bk (rm_set4 l Z a0 hw b184 jj p6 b189 x9 k9 x0 k0 x1 k1 x2 k2 x3 k3 zl (own_upd own_z ii p5) h206 n0 F208 F209 F210 F211 F212 F213 F214 P206_0 P206_1 P206_2 P206_3 ⟨by omega, by omega⟩ ⟨by omega, by omega⟩ gx0 gx1 gx2 gx3 nx0x1 nx0x2 nx0x3 nx1x2 nx1x3 nx2x3 ne_b189_x0 ne_b189_x1 ne_b189_x2 ne_b189_x3) hZ (hw _ (List.mem_of_getElem? (i := 53) rfl)) (hw _ (List.mem_of_getElem? (i := 3) rfl)) (by decide) (by decide)) e206 F216 (g := (mkF m 106 #[.val (.int p1), .val (.long q2), .second, .val (.long q3), .second, .val (.long q4), .second, .val (.int p5), .val (.int p6), .val (.int (1 : Int32)), .val (.long nn), .second, .val (.long ii), .second, .val (.long jj), .second, .val (.long kk), .second, .val (.ref b184), .unset, .unset, .unset, .unset, .unset] [(.int p6), (.long jj), (.ref b184)])) rfl (by rw [hml]; rfl) (lenOf pd_6 rfl) rfl (by show 2 * 0 + _ ≤ _; exact Nat.le_of_eq rfl) (hb hby at_106) (by decide) (by decide) (fun v215 T215 h215 L215 X215 e215 q215 => ?_)
      obtain ⟨rfl, M215, K215, P215_0, P215_1, P215_2, P215_3⟩ := q215
      have N215 := Fr.app N206 M215
      refine own_go (fun t k => XS.aload X215.here hx rfl (hb hby at_109) rfl rfl  k) ?_
      show own_Run p e below Φ (T215.setTop (mkF m 111 #[.val (.int p1), .val (.long q2), .second, .val (.long q3), .second, .val (.long q4), .second, .val (.int p5), .val (.int p6), .val (.int (1 : Int32)), .val (.long nn), .second, .val (.long ii), .second, .val (.long jj), .second, .val (.long kk), .second, .val (.ref b184), .unset, .unset, .unset, .unset, .unset] [(.ref b184)]))
      refine own_go (fun t k => XS.lload X215.here hx rfl (hb hby at_111) rfl  k) ?_
      have F217 : Fld Z h215 b184 "com/example/hueline/hueline/model/BigIntArray" "flat" "[I" .null := (F208.keep K215 (ninS ne_b184_x0 (ninS ne_b184_x1 (ninS ne_b184_x2 (ninS ne_b184_x3 nin0)))))
      have F218 : Fld Z h215 b184 "com/example/hueline/hueline/model/BigIntArray" "pages" "[[I" (.ref x9) := (F209.keep K215 (ninS ne_b184_x0 (ninS ne_b184_x1 (ninS ne_b184_x2 (ninS ne_b184_x3 nin0)))))
      have F219 : Fld Z h215 b184 "com/example/hueline/hueline/model/BigIntArray" "layout" "Lcom/example/hueline/hueline/model/Pages;" (.ref b189) := (F210.keep K215 (ninS ne_b184_x0 (ninS ne_b184_x1 (ninS ne_b184_x2 (ninS ne_b184_x3 nin0)))))
      have F220 : Exa Z h215 b189 "com/example/hueline/hueline/model/Pages" := (F211.keep K215)
      have F221 : Fld Z h215 b189 "com/example/hueline/hueline/model/Pages" "shift" "I" (.int (2 : Int32)) := (F212.keep K215 (ninS ne_b189_x0 (ninS ne_b189_x1 (ninS ne_b189_x2 (ninS ne_b189_x3 nin0)))))
      have F222 : Fld Z h215 b189 "com/example/hueline/hueline/model/Pages" "mask" "I" (.int (3 : Int32)) := (F213.keep K215 (ninS ne_b189_x0 (ninS ne_b189_x1 (ninS ne_b189_x2 (ninS ne_b189_x3 nin0)))))
      have F223 : Arv Z h215 x9 k9 (.array .int) (4 : Int32) [(.ref x0), (.ref x1), (.ref x2), (.ref x3)] .null := (F214.keep K215 (ninS nx9x0 (ninS nx9x1 (ninS nx9x2 (ninS nx9x3 nin0)))))
      have F225 : Exa Z h215 b184 "com/example/hueline/hueline/model/BigIntArray" := (F216.keep K215)
      refine own_callV X215 hx hZ (y := (⟨"com/example/hueline/hueline/model/BigIntArray", "get", "(J)I"⟩ : MethodName)) (z := (⟨"com/example/hueline/hueline/model/BigIntArray", "get", "(J)I"⟩ : MethodName)) (W := 0) (a := b184) (argsL := [(.long ii)]) (rest := []) hown (hw _ (List.mem_of_getElem? (i := 54) rfl)) (hw _ (List.mem_of_getElem? (i := 55) rfl)) (notFace_of_selects (args := #[]) (mvT hZ (hw _ (List.mem_of_getElem? (i := 57) rfl)))) (hw _ (List.mem_of_getElem? (i := 57) rfl)) (hw _ (List.mem_of_getElem? (i := 56) rfl)) (by decide) (own_bk (rm_get4 l Z a0 hw b184 ii b189 x9 k9 x0 k0 x1 k1 x2 k2 x3 k3 zl (own_upd (own_upd own_z ii p5) jj p6) h215 n0 F217 F218 F219 F220 F221 F222 F223 P215_0 P215_1 P215_2 P215_3 ⟨by omega, by omega⟩ ⟨by omega, by omega⟩) hZ (hw _ (List.mem_of_getElem? (i := 58) rfl)) (hw _ (List.mem_of_getElem? (i := 3) rfl)) (by decide) (by decide)) e215 F225 (g := (mkF m 113 #[.val (.int p1), .val (.long q2), .second, .val (.long q3), .second, .val (.long q4), .second, .val (.int p5), .val (.int p6), .val (.int (1 : Int32)), .val (.long nn), .second, .val (.long ii), .second, .val (.long jj), .second, .val (.long kk), .second, .val (.ref b184), .unset, .unset, .unset, .unset, .unset] [(.long ii), (.ref b184)])) rfl (by rw [hml]; rfl) (lenOf pd_3 rfl) rfl (by show 2 * 0 + _ ≤ _; exact Nat.le_of_eq rfl) (hb hby at_113) (by decide) (by decide) (fun v224 T224 h224 L224 X224 e224 q224 => ?_)
      obtain ⟨rfl, M224, s224⟩ := q224
      replace e224 : T224.heap = h215 := e224.trans s224
      have N224 := Fr.app N215 M224
      refine own_go (fun t k => XS.istore X224.here hx rfl (hb hby at_116) rfl (l' := #[.val (.int p1), .val (.long q2), .second, .val (.long q3), .second, .val (.long q4), .second, .val (.int p5), .val (.int p6), .val (.int (1 : Int32)), .val (.long nn), .second, .val (.long ii), .second, .val (.long jj), .second, .val (.long kk), .second, .val (.ref b184), .val (.int ((own_upd (own_upd own_z ii p5) jj p6) ii)), .unset, .unset, .unset, .unset]) rfl k) ?_
      refine own_go (fun t k => XS.aload X224.here hx rfl (hb hby at_118) rfl rfl  k) ?_
      refine own_go (fun t k => XS.lload X224.here hx rfl (hb hby at_120) rfl  k) ?_
      show own_Run p e below Φ (T224.setTop (mkF m 122 #[.val (.int p1), .val (.long q2), .second, .val (.long q3), .second, .val (.long q4), .second, .val (.int p5), .val (.int p6), .val (.int (1 : Int32)), .val (.long nn), .second, .val (.long ii), .second, .val (.long jj), .second, .val (.long kk), .second, .val (.ref b184), .val (.int ((own_upd (own_upd own_z ii p5) jj p6) ii)), .unset, .unset, .unset, .unset] [(.long jj), (.ref b184)]))
      refine own_callV X224 hx hZ (y := (⟨"com/example/hueline/hueline/model/BigIntArray", "get", "(J)I"⟩ : MethodName)) (z := (⟨"com/example/hueline/hueline/model/BigIntArray", "get", "(J)I"⟩ : MethodName)) (W := 0) (a := b184) (argsL := [(.long jj)]) (rest := []) hown (hw _ (List.mem_of_getElem? (i := 54) rfl)) (hw _ (List.mem_of_getElem? (i := 55) rfl)) (notFace_of_selects (args := #[]) (mvT hZ (hw _ (List.mem_of_getElem? (i := 57) rfl)))) (hw _ (List.mem_of_getElem? (i := 57) rfl)) (hw _ (List.mem_of_getElem? (i := 56) rfl)) (by decide) (own_bk (rm_get4 l Z a0 hw b184 jj b189 x9 k9 x0 k0 x1 k1 x2 k2 x3 k3 zl (own_upd (own_upd own_z ii p5) jj p6) h215 n0 F217 F218 F219 F220 F221 F222 F223 P215_0 P215_1 P215_2 P215_3 ⟨by omega, by omega⟩ ⟨by omega, by omega⟩) hZ (hw _ (List.mem_of_getElem? (i := 58) rfl)) (hw _ (List.mem_of_getElem? (i := 3) rfl)) (by decide) (by decide)) e224 F225 (g := (mkF m 122 #[.val (.int p1), .val (.long q2), .second, .val (.long q3), .second, .val (.long q4), .second, .val (.int p5), .val (.int p6), .val (.int (1 : Int32)), .val (.long nn), .second, .val (.long ii), .second, .val (.long jj), .second, .val (.long kk), .second, .val (.ref b184), .val (.int ((own_upd (own_upd own_z ii p5) jj p6) ii)), .unset, .unset, .unset, .unset] [(.long jj), (.ref b184)])) rfl (by rw [hml]; rfl) (lenOf pd_3 rfl) rfl (by show 2 * 0 + _ ≤ _; exact Nat.le_of_eq rfl) (hb hby at_122) (by decide) (by decide) (fun v226 T226 h226 L226 X226 e226 q226 => ?_)
      obtain ⟨rfl, M226, s226⟩ := q226
      replace e226 : T226.heap = h215 := e226.trans s226
      have N226 := Fr.app N224 M226
      refine own_go (fun t k => XS.istore X226.here hx rfl (hb hby at_125) rfl (l' := #[.val (.int p1), .val (.long q2), .second, .val (.long q3), .second, .val (.long q4), .second, .val (.int p5), .val (.int p6), .val (.int (1 : Int32)), .val (.long nn), .second, .val (.long ii), .second, .val (.long jj), .second, .val (.long kk), .second, .val (.ref b184), .val (.int ((own_upd (own_upd own_z ii p5) jj p6) ii)), .val (.int ((own_upd (own_upd own_z ii p5) jj p6) jj)), .unset, .unset, .unset]) rfl k) ?_
      refine own_go (fun t k => XS.aload X226.here hx rfl (hb hby at_127) rfl rfl  k) ?_
      refine own_go (fun t k => XS.lload X226.here hx rfl (hb hby at_129) rfl  k) ?_
      refine own_callV X226 hx hZ (y := (⟨"com/example/hueline/hueline/model/BigIntArray", "get", "(J)I"⟩ : MethodName)) (z := (⟨"com/example/hueline/hueline/model/BigIntArray", "get", "(J)I"⟩ : MethodName)) (W := 0) (a := b184) (argsL := [(.long kk)]) (rest := []) hown (hw _ (List.mem_of_getElem? (i := 54) rfl)) (hw _ (List.mem_of_getElem? (i := 55) rfl)) (notFace_of_selects (args := #[]) (mvT hZ (hw _ (List.mem_of_getElem? (i := 57) rfl)))) (hw _ (List.mem_of_getElem? (i := 57) rfl)) (hw _ (List.mem_of_getElem? (i := 56) rfl)) (by decide) (own_bk (rm_get4 l Z a0 hw b184 kk b189 x9 k9 x0 k0 x1 k1 x2 k2 x3 k3 zl (own_upd (own_upd own_z ii p5) jj p6) h215 n0 F217 F218 F219 F220 F221 F222 F223 P215_0 P215_1 P215_2 P215_3 ⟨by omega, by omega⟩ ⟨by omega, by omega⟩) hZ (hw _ (List.mem_of_getElem? (i := 58) rfl)) (hw _ (List.mem_of_getElem? (i := 3) rfl)) (by decide) (by decide)) e226 F225 (g := (mkF m 131 #[.val (.int p1), .val (.long q2), .second, .val (.long q3), .second, .val (.long q4), .second, .val (.int p5), .val (.int p6), .val (.int (1 : Int32)), .val (.long nn), .second, .val (.long ii), .second, .val (.long jj), .second, .val (.long kk), .second, .val (.ref b184), .val (.int ((own_upd (own_upd own_z ii p5) jj p6) ii)), .val (.int ((own_upd (own_upd own_z ii p5) jj p6) jj)), .unset, .unset, .unset] [(.long kk), (.ref b184)])) rfl (by rw [hml]; rfl) (lenOf pd_3 rfl) rfl (by show 2 * 0 + _ ≤ _; exact Nat.le_of_eq rfl) (hb hby at_131) (by decide) (by decide) (fun v227 T227 h227 L227 X227 e227 q227 => ?_)
      obtain ⟨rfl, M227, s227⟩ := q227
      replace e227 : T227.heap = h215 := e227.trans s227
      have N227 := Fr.app N226 M227
      show own_Run p e below Φ (T227.setTop (mkF m 134 #[.val (.int p1), .val (.long q2), .second, .val (.long q3), .second, .val (.long q4), .second, .val (.int p5), .val (.int p6), .val (.int (1 : Int32)), .val (.long nn), .second, .val (.long ii), .second, .val (.long jj), .second, .val (.long kk), .second, .val (.ref b184), .val (.int ((own_upd (own_upd own_z ii p5) jj p6) ii)), .val (.int ((own_upd (own_upd own_z ii p5) jj p6) jj)), .unset, .unset, .unset] [(.int ((own_upd (own_upd own_z ii p5) jj p6) kk))]))
      refine own_go (fun t k => XS.istore X227.here hx rfl (hb hby at_134) rfl (l' := #[.val (.int p1), .val (.long q2), .second, .val (.long q3), .second, .val (.long q4), .second, .val (.int p5), .val (.int p6), .val (.int (1 : Int32)), .val (.long nn), .second, .val (.long ii), .second, .val (.long jj), .second, .val (.long kk), .second, .val (.ref b184), .val (.int ((own_upd (own_upd own_z ii p5) jj p6) ii)), .val (.int ((own_upd (own_upd own_z ii p5) jj p6) jj)), .val (.int ((own_upd (own_upd own_z ii p5) jj p6) kk)), .unset, .unset]) rfl k) ?_
      refine own_go (fun t k => XS.lload X227.here hx rfl (hb hby at_136) rfl  k) ?_
      refine own_go (fun t k => XS.lload X227.here hx rfl (hb hby at_138) rfl  k) ?_
      refine own_go (fun t k => XS.lcmp X227.here hx rfl (hb hby at_140) rfl k) ?_
      by_cases hc141 : (lcmpW ii jj) = (0 : Int32)
      · refine own_go (fun t k => XS.ifNo X227.here hx rfl (hb hby at_141) rfl ((if0 _ _).trans (teq hc141).2) k) ?_
        show own_Run p e below Φ (T227.setTop (mkF m 144 #[.val (.int p1), .val (.long q2), .second, .val (.long q3), .second, .val (.long q4), .second, .val (.int p5), .val (.int p6), .val (.int (1 : Int32)), .val (.long nn), .second, .val (.long ii), .second, .val (.long jj), .second, .val (.long kk), .second, .val (.ref b184), .val (.int ((own_upd (own_upd own_z ii p5) jj p6) ii)), .val (.int ((own_upd (own_upd own_z ii p5) jj p6) jj)), .val (.int ((own_upd (own_upd own_z ii p5) jj p6) kk)), .unset, .unset] []))
        refine own_go (fun t k => XS.iload X227.here hx rfl (hb hby at_144) rfl  k) ?_
        refine own_go (fun t k => XS.goto X227.here hx rfl (pc0 := 146) (pc' := 151) rfl (hb hby at_146) (by decide) (by decide) k) ?_
        refine own_go (fun t k => XS.istore X227.here hx rfl (hb hby at_151) rfl (l' := #[.val (.int p1), .val (.long q2), .second, .val (.long q3), .second, .val (.long q4), .second, .val (.int p5), .val (.int p6), .val (.int (1 : Int32)), .val (.long nn), .second, .val (.long ii), .second, .val (.long jj), .second, .val (.long kk), .second, .val (.ref b184), .val (.int ((own_upd (own_upd own_z ii p5) jj p6) ii)), .val (.int ((own_upd (own_upd own_z ii p5) jj p6) jj)), .val (.int ((own_upd (own_upd own_z ii p5) jj p6) kk)), .val (.int p6), .unset]) rfl k) ?_
        refine own_go (fun t k => XS.lload X227.here hx rfl (hb hby at_153) rfl  k) ?_
        refine own_go (fun t k => XS.lload X227.here hx rfl (hb hby at_155) rfl  k) ?_
        show own_Run p e below Φ (T227.setTop (mkF m 157 #[.val (.int p1), .val (.long q2), .second, .val (.long q3), .second, .val (.long q4), .second, .val (.int p5), .val (.int p6), .val (.int (1 : Int32)), .val (.long nn), .second, .val (.long ii), .second, .val (.long jj), .second, .val (.long kk), .second, .val (.ref b184), .val (.int ((own_upd (own_upd own_z ii p5) jj p6) ii)), .val (.int ((own_upd (own_upd own_z ii p5) jj p6) jj)), .val (.int ((own_upd (own_upd own_z ii p5) jj p6) kk)), .val (.int p6), .unset] [(.long jj), (.long kk)]))
        refine own_go (fun t k => XS.lcmp X227.here hx rfl (hb hby at_157) rfl k) ?_
        by_cases hc158 : (lcmpW kk jj) = (0 : Int32)
        · refine own_go (fun t k => XS.ifNo X227.here hx rfl (hb hby at_158) rfl ((if0 _ _).trans (teq hc158).2) k) ?_
          refine own_go (fun t k => XS.iload X227.here hx rfl (hb hby at_161) rfl  k) ?_
          refine own_go (fun t k => XS.istore X227.here hx rfl (hb hby at_163) rfl (l' := #[.val (.int p1), .val (.long q2), .second, .val (.long q3), .second, .val (.long q4), .second, .val (.int p5), .val (.int p6), .val (.int (1 : Int32)), .val (.long nn), .second, .val (.long ii), .second, .val (.long jj), .second, .val (.long kk), .second, .val (.ref b184), .val (.int ((own_upd (own_upd own_z ii p5) jj p6) ii)), .val (.int ((own_upd (own_upd own_z ii p5) jj p6) jj)), .val (.int ((own_upd (own_upd own_z ii p5) jj p6) kk)), .val (.int p6), .val (.int p6)]) rfl k) ?_
          refine own_go (fun t k => XS.goto X227.here hx rfl (pc0 := 165) (pc' := 186) rfl (hb hby at_165) (by decide) (by decide) k) ?_
          show own_Run p e below Φ (T227.setTop (mkF m 186 #[.val (.int p1), .val (.long q2), .second, .val (.long q3), .second, .val (.long q4), .second, .val (.int p5), .val (.int p6), .val (.int (1 : Int32)), .val (.long nn), .second, .val (.long ii), .second, .val (.long jj), .second, .val (.long kk), .second, .val (.ref b184), .val (.int ((own_upd (own_upd own_z ii p5) jj p6) ii)), .val (.int ((own_upd (own_upd own_z ii p5) jj p6) jj)), .val (.int ((own_upd (own_upd own_z ii p5) jj p6) kk)), .val (.int p6), .val (.int p6)] []))
          refine own_go (fun t k => XS.iload X227.here hx rfl (hb hby at_186) rfl  k) ?_
          refine own_go (fun t k => XS.iload X227.here hx rfl (hb hby at_188) rfl  k) ?_
          have hc190 : ((own_upd (own_upd own_z ii p5) jj p6) ii) = p6 := (own_u1 hc141)
          refine own_go (fun t k => XS.icmpNo X227.here hx rfl (hb hby at_190) rfl (teq hc190).2 k) ?_
          refine own_go (fun t k => XS.iload X227.here hx rfl (hb hby at_193) rfl  k) ?_
          refine own_go (fun t k => XS.iload X227.here hx rfl (hb hby at_195) rfl  k) ?_
          show own_Run p e below Φ (T227.setTop (mkF m 197 #[.val (.int p1), .val (.long q2), .second, .val (.long q3), .second, .val (.long q4), .second, .val (.int p5), .val (.int p6), .val (.int (1 : Int32)), .val (.long nn), .second, .val (.long ii), .second, .val (.long jj), .second, .val (.long kk), .second, .val (.ref b184), .val (.int ((own_upd (own_upd own_z ii p5) jj p6) ii)), .val (.int ((own_upd (own_upd own_z ii p5) jj p6) jj)), .val (.int ((own_upd (own_upd own_z ii p5) jj p6) kk)), .val (.int p6), .val (.int p6)] [(.int p6), (.int ((own_upd (own_upd own_z ii p5) jj p6) jj))]))
          have hc197 : ((own_upd (own_upd own_z ii p5) jj p6) jj) = p6 := own_u1'
          refine own_go (fun t k => XS.icmpNo X227.here hx rfl (hb hby at_197) rfl (teq hc197).2 k) ?_
          refine own_go (fun t k => XS.iload X227.here hx rfl (hb hby at_200) rfl  k) ?_
          refine own_go (fun t k => XS.iload X227.here hx rfl (hb hby at_202) rfl  k) ?_
          have hc204 : ((own_upd (own_upd own_z ii p5) jj p6) kk) = p6 := (own_u1 hc158)
          refine own_go (fun t k => XS.icmpNo X227.here hx rfl (hb hby at_204) rfl (teq hc204).2 k) ?_
          refine own_go (fun t k => XS.aload X227.here hx rfl (hb hby at_207) rfl rfl  k) ?_
          show own_Run p e below Φ (T227.setTop (mkF m 209 #[.val (.int p1), .val (.long q2), .second, .val (.long q3), .second, .val (.long q4), .second, .val (.int p5), .val (.int p6), .val (.int (1 : Int32)), .val (.long nn), .second, .val (.long ii), .second, .val (.long jj), .second, .val (.long kk), .second, .val (.ref b184), .val (.int ((own_upd (own_upd own_z ii p5) jj p6) ii)), .val (.int ((own_upd (own_upd own_z ii p5) jj p6) jj)), .val (.int ((own_upd (own_upd own_z ii p5) jj p6) kk)), .val (.int p6), .val (.int p6)] [(.ref b184)]))
          have F228 : Fld Z h215 b184 "com/example/hueline/hueline/model/BigIntArray" "length" "J" (.long nn) := ((P202_1.keep K206 (ninS ne_b184_x0 (ninS ne_b184_x1 (ninS ne_b184_x2 (ninS ne_b184_x3 nin0))))).keep K215 (ninS ne_b184_x0 (ninS ne_b184_x1 (ninS ne_b184_x2 (ninS ne_b184_x3 nin0)))))
          refine own_callV X227 hx hZ (y := (⟨"com/example/hueline/hueline/model/BigIntArray", "length", "()J"⟩ : MethodName)) (z := (⟨"com/example/hueline/hueline/model/BigIntArray", "length", "()J"⟩ : MethodName)) (W := 0) (a := b184) (argsL := []) (rest := []) hown (hw _ (List.mem_of_getElem? (i := 59) rfl)) (hw _ (List.mem_of_getElem? (i := 60) rfl)) (notFace_of_selects (args := #[]) (mvT hZ (hw _ (List.mem_of_getElem? (i := 62) rfl)))) (hw _ (List.mem_of_getElem? (i := 62) rfl)) (hw _ (List.mem_of_getElem? (i := 61) rfl)) (by decide) (own_bk (rm_ln l Z a0 hw b184 nn h215 n0 F228) hZ (hw _ (List.mem_of_getElem? (i := 63) rfl)) (hw _ (List.mem_of_getElem? (i := 3) rfl)) (by decide) (by decide)) e227 F225 (g := (mkF m 209 #[.val (.int p1), .val (.long q2), .second, .val (.long q3), .second, .val (.long q4), .second, .val (.int p5), .val (.int p6), .val (.int (1 : Int32)), .val (.long nn), .second, .val (.long ii), .second, .val (.long jj), .second, .val (.long kk), .second, .val (.ref b184), .val (.int ((own_upd (own_upd own_z ii p5) jj p6) ii)), .val (.int ((own_upd (own_upd own_z ii p5) jj p6) jj)), .val (.int ((own_upd (own_upd own_z ii p5) jj p6) kk)), .val (.int p6), .val (.int p6)] [(.ref b184)])) rfl (by rw [hml]; rfl) (lenOf pd_7 rfl) rfl (by show 2 * 0 + _ ≤ _; exact Nat.le_of_eq rfl) (hb hby at_209) (by decide) (by decide) (fun v229 T229 h229 L229 X229 e229 q229 => ?_)
          obtain ⟨rfl, M229, s229⟩ := q229
          replace e229 : T229.heap = h215 := e229.trans s229
          have N229 := Fr.app N227 M229
          refine own_go (fun t k => XS.lload X229.here hx rfl (hb hby at_212) rfl  k) ?_
          refine own_go (fun t k => XS.lcmp X229.here hx rfl (hb hby at_214) rfl k) ?_
          have hc215 : (lcmpW nn nn) = (0 : Int32) := ((lw_eq _ _).mpr rfl)
          refine own_go (fun t k => XS.ifNo X229.here hx rfl (hb hby at_215) rfl ((if0 _ _).trans (teq hc215).2) k) ?_
          refine own_go (fun t k => XS.iconst X229.here hx rfl (hb hby at_218) k) ?_
          show own_Run p e below Φ (T229.setTop (mkF m 219 #[.val (.int p1), .val (.long q2), .second, .val (.long q3), .second, .val (.long q4), .second, .val (.int p5), .val (.int p6), .val (.int (1 : Int32)), .val (.long nn), .second, .val (.long ii), .second, .val (.long jj), .second, .val (.long kk), .second, .val (.ref b184), .val (.int ((own_upd (own_upd own_z ii p5) jj p6) ii)), .val (.int ((own_upd (own_upd own_z ii p5) jj p6) jj)), .val (.int ((own_upd (own_upd own_z ii p5) jj p6) kk)), .val (.int p6), .val (.int p6)] [(.int (1 : Int32))]))
          refine own_go (fun t k => XS.goto X229.here hx rfl (pc0 := 219) (pc' := 223) rfl (hb hby at_219) (by decide) (by decide) k) ?_
          subst hΦ
          exact own_retN X229 hx (t := .boolean) Bd.returns (by simp) hlk (hb hby at_223) e229 ⟨rfl, N229⟩ (by decide) (by decide)
        · refine own_go (fun t k => XS.ifYes X227.here hx rfl (pc0 := 158) (pc' := 168) rfl (hb hby at_158) rfl ((if0 _ _).trans (feq hc158).2) (by decide) (by decide) k) ?_
          refine own_go (fun t k => XS.lload X227.here hx rfl (hb hby at_168) rfl  k) ?_
          refine own_go (fun t k => XS.lload X227.here hx rfl (hb hby at_170) rfl  k) ?_
          refine own_go (fun t k => XS.lcmp X227.here hx rfl (hb hby at_172) rfl k) ?_
          show own_Run p e below Φ (T227.setTop (mkF m 173 #[.val (.int p1), .val (.long q2), .second, .val (.long q3), .second, .val (.long q4), .second, .val (.int p5), .val (.int p6), .val (.int (1 : Int32)), .val (.long nn), .second, .val (.long ii), .second, .val (.long jj), .second, .val (.long kk), .second, .val (.ref b184), .val (.int ((own_upd (own_upd own_z ii p5) jj p6) ii)), .val (.int ((own_upd (own_upd own_z ii p5) jj p6) jj)), .val (.int ((own_upd (own_upd own_z ii p5) jj p6) kk)), .val (.int p6), .unset] [(.int (lcmpW kk ii))]))
          by_cases hc173 : (lcmpW kk ii) = (0 : Int32)
          · refine own_go (fun t k => XS.ifNo X227.here hx rfl (hb hby at_173) rfl ((if0 _ _).trans (teq hc173).2) k) ?_
            refine own_go (fun t k => XS.iload X227.here hx rfl (hb hby at_176) rfl  k) ?_
            refine own_go (fun t k => XS.istore X227.here hx rfl (hb hby at_178) rfl (l' := #[.val (.int p1), .val (.long q2), .second, .val (.long q3), .second, .val (.long q4), .second, .val (.int p5), .val (.int p6), .val (.int (1 : Int32)), .val (.long nn), .second, .val (.long ii), .second, .val (.long jj), .second, .val (.long kk), .second, .val (.ref b184), .val (.int ((own_upd (own_upd own_z ii p5) jj p6) ii)), .val (.int ((own_upd (own_upd own_z ii p5) jj p6) jj)), .val (.int ((own_upd (own_upd own_z ii p5) jj p6) kk)), .val (.int p6), .val (.int p5)]) rfl k) ?_
            refine own_go (fun t k => XS.goto X227.here hx rfl (pc0 := 180) (pc' := 186) rfl (hb hby at_180) (by decide) (by decide) k) ?_
            refine own_go (fun t k => XS.iload X227.here hx rfl (hb hby at_186) rfl  k) ?_
            show own_Run p e below Φ (T227.setTop (mkF m 188 #[.val (.int p1), .val (.long q2), .second, .val (.long q3), .second, .val (.long q4), .second, .val (.int p5), .val (.int p6), .val (.int (1 : Int32)), .val (.long nn), .second, .val (.long ii), .second, .val (.long jj), .second, .val (.long kk), .second, .val (.ref b184), .val (.int ((own_upd (own_upd own_z ii p5) jj p6) ii)), .val (.int ((own_upd (own_upd own_z ii p5) jj p6) jj)), .val (.int ((own_upd (own_upd own_z ii p5) jj p6) kk)), .val (.int p6), .val (.int p5)] [(.int ((own_upd (own_upd own_z ii p5) jj p6) ii))]))
            refine own_go (fun t k => XS.iload X227.here hx rfl (hb hby at_188) rfl  k) ?_
            have hc190 : ((own_upd (own_upd own_z ii p5) jj p6) ii) = p6 := (own_u1 hc141)
            refine own_go (fun t k => XS.icmpNo X227.here hx rfl (hb hby at_190) rfl (teq hc190).2 k) ?_
            refine own_go (fun t k => XS.iload X227.here hx rfl (hb hby at_193) rfl  k) ?_
            refine own_go (fun t k => XS.iload X227.here hx rfl (hb hby at_195) rfl  k) ?_
            have hc197 : ((own_upd (own_upd own_z ii p5) jj p6) jj) = p6 := own_u1'
            refine own_go (fun t k => XS.icmpNo X227.here hx rfl (hb hby at_197) rfl (teq hc197).2 k) ?_
            show own_Run p e below Φ (T227.setTop (mkF m 200 #[.val (.int p1), .val (.long q2), .second, .val (.long q3), .second, .val (.long q4), .second, .val (.int p5), .val (.int p6), .val (.int (1 : Int32)), .val (.long nn), .second, .val (.long ii), .second, .val (.long jj), .second, .val (.long kk), .second, .val (.ref b184), .val (.int ((own_upd (own_upd own_z ii p5) jj p6) ii)), .val (.int ((own_upd (own_upd own_z ii p5) jj p6) jj)), .val (.int ((own_upd (own_upd own_z ii p5) jj p6) kk)), .val (.int p6), .val (.int p5)] []))
            refine own_go (fun t k => XS.iload X227.here hx rfl (hb hby at_200) rfl  k) ?_
            refine own_go (fun t k => XS.iload X227.here hx rfl (hb hby at_202) rfl  k) ?_
            have hc204 : ((own_upd (own_upd own_z ii p5) jj p6) kk) = p5 := ((own_u2 hc158).trans (own_u1 hc173))
            refine own_go (fun t k => XS.icmpNo X227.here hx rfl (hb hby at_204) rfl (teq hc204).2 k) ?_
            refine own_go (fun t k => XS.aload X227.here hx rfl (hb hby at_207) rfl rfl  k) ?_
            have F230 : Fld Z h215 b184 "com/example/hueline/hueline/model/BigIntArray" "length" "J" (.long nn) := ((P202_1.keep K206 (ninS ne_b184_x0 (ninS ne_b184_x1 (ninS ne_b184_x2 (ninS ne_b184_x3 nin0))))).keep K215 (ninS ne_b184_x0 (ninS ne_b184_x1 (ninS ne_b184_x2 (ninS ne_b184_x3 nin0)))))
            refine own_callV X227 hx hZ (y := (⟨"com/example/hueline/hueline/model/BigIntArray", "length", "()J"⟩ : MethodName)) (z := (⟨"com/example/hueline/hueline/model/BigIntArray", "length", "()J"⟩ : MethodName)) (W := 0) (a := b184) (argsL := []) (rest := []) hown (hw _ (List.mem_of_getElem? (i := 59) rfl)) (hw _ (List.mem_of_getElem? (i := 60) rfl)) (notFace_of_selects (args := #[]) (mvT hZ (hw _ (List.mem_of_getElem? (i := 62) rfl)))) (hw _ (List.mem_of_getElem? (i := 62) rfl)) (hw _ (List.mem_of_getElem? (i := 61) rfl)) (by decide) (own_bk (rm_ln l Z a0 hw b184 nn h215 n0 F230) hZ (hw _ (List.mem_of_getElem? (i := 63) rfl)) (hw _ (List.mem_of_getElem? (i := 3) rfl)) (by decide) (by decide)) e227 F225 (g := (mkF m 209 #[.val (.int p1), .val (.long q2), .second, .val (.long q3), .second, .val (.long q4), .second, .val (.int p5), .val (.int p6), .val (.int (1 : Int32)), .val (.long nn), .second, .val (.long ii), .second, .val (.long jj), .second, .val (.long kk), .second, .val (.ref b184), .val (.int ((own_upd (own_upd own_z ii p5) jj p6) ii)), .val (.int ((own_upd (own_upd own_z ii p5) jj p6) jj)), .val (.int ((own_upd (own_upd own_z ii p5) jj p6) kk)), .val (.int p6), .val (.int p5)] [(.ref b184)])) rfl (by rw [hml]; rfl) (lenOf pd_7 rfl) rfl (by show 2 * 0 + _ ≤ _; exact Nat.le_of_eq rfl) (hb hby at_209) (by decide) (by decide) (fun v231 T231 h231 L231 X231 e231 q231 => ?_)
            obtain ⟨rfl, M231, s231⟩ := q231
            replace e231 : T231.heap = h215 := e231.trans s231
            have N231 := Fr.app N227 M231
            show own_Run p e below Φ (T231.setTop (mkF m 212 #[.val (.int p1), .val (.long q2), .second, .val (.long q3), .second, .val (.long q4), .second, .val (.int p5), .val (.int p6), .val (.int (1 : Int32)), .val (.long nn), .second, .val (.long ii), .second, .val (.long jj), .second, .val (.long kk), .second, .val (.ref b184), .val (.int ((own_upd (own_upd own_z ii p5) jj p6) ii)), .val (.int ((own_upd (own_upd own_z ii p5) jj p6) jj)), .val (.int ((own_upd (own_upd own_z ii p5) jj p6) kk)), .val (.int p6), .val (.int p5)] [(.long nn)]))
            refine own_go (fun t k => XS.lload X231.here hx rfl (hb hby at_212) rfl  k) ?_
            refine own_go (fun t k => XS.lcmp X231.here hx rfl (hb hby at_214) rfl k) ?_
            have hc215 : (lcmpW nn nn) = (0 : Int32) := ((lw_eq _ _).mpr rfl)
            refine own_go (fun t k => XS.ifNo X231.here hx rfl (hb hby at_215) rfl ((if0 _ _).trans (teq hc215).2) k) ?_
            refine own_go (fun t k => XS.iconst X231.here hx rfl (hb hby at_218) k) ?_
            refine own_go (fun t k => XS.goto X231.here hx rfl (pc0 := 219) (pc' := 223) rfl (hb hby at_219) (by decide) (by decide) k) ?_
            show own_Run p e below Φ (T231.setTop (mkF m 223 #[.val (.int p1), .val (.long q2), .second, .val (.long q3), .second, .val (.long q4), .second, .val (.int p5), .val (.int p6), .val (.int (1 : Int32)), .val (.long nn), .second, .val (.long ii), .second, .val (.long jj), .second, .val (.long kk), .second, .val (.ref b184), .val (.int ((own_upd (own_upd own_z ii p5) jj p6) ii)), .val (.int ((own_upd (own_upd own_z ii p5) jj p6) jj)), .val (.int ((own_upd (own_upd own_z ii p5) jj p6) kk)), .val (.int p6), .val (.int p5)] [(.int (1 : Int32))]))
            subst hΦ
            exact own_retN X231 hx (t := .boolean) Bd.returns (by simp) hlk (hb hby at_223) e231 ⟨rfl, N231⟩ (by decide) (by decide)
          · refine own_go (fun t k => XS.ifYes X227.here hx rfl (pc0 := 173) (pc' := 183) rfl (hb hby at_173) rfl ((if0 _ _).trans (feq hc173).2) (by decide) (by decide) k) ?_
            refine own_go (fun t k => XS.iconst X227.here hx rfl (hb hby at_183) k) ?_
            refine own_go (fun t k => XS.istore X227.here hx rfl (hb hby at_184) rfl (l' := #[.val (.int p1), .val (.long q2), .second, .val (.long q3), .second, .val (.long q4), .second, .val (.int p5), .val (.int p6), .val (.int (1 : Int32)), .val (.long nn), .second, .val (.long ii), .second, .val (.long jj), .second, .val (.long kk), .second, .val (.ref b184), .val (.int ((own_upd (own_upd own_z ii p5) jj p6) ii)), .val (.int ((own_upd (own_upd own_z ii p5) jj p6) jj)), .val (.int ((own_upd (own_upd own_z ii p5) jj p6) kk)), .val (.int p6), .val (.int (0 : Int32))]) rfl k) ?_
            refine own_go (fun t k => XS.iload X227.here hx rfl (hb hby at_186) rfl  k) ?_
            refine own_go (fun t k => XS.iload X227.here hx rfl (hb hby at_188) rfl  k) ?_
            show own_Run p e below Φ (T227.setTop (mkF m 190 #[.val (.int p1), .val (.long q2), .second, .val (.long q3), .second, .val (.long q4), .second, .val (.int p5), .val (.int p6), .val (.int (1 : Int32)), .val (.long nn), .second, .val (.long ii), .second, .val (.long jj), .second, .val (.long kk), .second, .val (.ref b184), .val (.int ((own_upd (own_upd own_z ii p5) jj p6) ii)), .val (.int ((own_upd (own_upd own_z ii p5) jj p6) jj)), .val (.int ((own_upd (own_upd own_z ii p5) jj p6) kk)), .val (.int p6), .val (.int (0 : Int32))] [(.int p6), (.int ((own_upd (own_upd own_z ii p5) jj p6) ii))]))
            have hc190 : ((own_upd (own_upd own_z ii p5) jj p6) ii) = p6 := (own_u1 hc141)
            refine own_go (fun t k => XS.icmpNo X227.here hx rfl (hb hby at_190) rfl (teq hc190).2 k) ?_
            refine own_go (fun t k => XS.iload X227.here hx rfl (hb hby at_193) rfl  k) ?_
            refine own_go (fun t k => XS.iload X227.here hx rfl (hb hby at_195) rfl  k) ?_
            have hc197 : ((own_upd (own_upd own_z ii p5) jj p6) jj) = p6 := own_u1'
            refine own_go (fun t k => XS.icmpNo X227.here hx rfl (hb hby at_197) rfl (teq hc197).2 k) ?_
            refine own_go (fun t k => XS.iload X227.here hx rfl (hb hby at_200) rfl  k) ?_
            show own_Run p e below Φ (T227.setTop (mkF m 202 #[.val (.int p1), .val (.long q2), .second, .val (.long q3), .second, .val (.long q4), .second, .val (.int p5), .val (.int p6), .val (.int (1 : Int32)), .val (.long nn), .second, .val (.long ii), .second, .val (.long jj), .second, .val (.long kk), .second, .val (.ref b184), .val (.int ((own_upd (own_upd own_z ii p5) jj p6) ii)), .val (.int ((own_upd (own_upd own_z ii p5) jj p6) jj)), .val (.int ((own_upd (own_upd own_z ii p5) jj p6) kk)), .val (.int p6), .val (.int (0 : Int32))] [(.int ((own_upd (own_upd own_z ii p5) jj p6) kk))]))
            refine own_go (fun t k => XS.iload X227.here hx rfl (hb hby at_202) rfl  k) ?_
            have hc204 : ((own_upd (own_upd own_z ii p5) jj p6) kk) = (0 : Int32) := ((own_u2 hc158).trans (own_u2 hc173))
            refine own_go (fun t k => XS.icmpNo X227.here hx rfl (hb hby at_204) rfl (teq hc204).2 k) ?_
            refine own_go (fun t k => XS.aload X227.here hx rfl (hb hby at_207) rfl rfl  k) ?_
            have F232 : Fld Z h215 b184 "com/example/hueline/hueline/model/BigIntArray" "length" "J" (.long nn) := ((P202_1.keep K206 (ninS ne_b184_x0 (ninS ne_b184_x1 (ninS ne_b184_x2 (ninS ne_b184_x3 nin0))))).keep K215 (ninS ne_b184_x0 (ninS ne_b184_x1 (ninS ne_b184_x2 (ninS ne_b184_x3 nin0)))))
            refine own_callV X227 hx hZ (y := (⟨"com/example/hueline/hueline/model/BigIntArray", "length", "()J"⟩ : MethodName)) (z := (⟨"com/example/hueline/hueline/model/BigIntArray", "length", "()J"⟩ : MethodName)) (W := 0) (a := b184) (argsL := []) (rest := []) hown (hw _ (List.mem_of_getElem? (i := 59) rfl)) (hw _ (List.mem_of_getElem? (i := 60) rfl)) (notFace_of_selects (args := #[]) (mvT hZ (hw _ (List.mem_of_getElem? (i := 62) rfl)))) (hw _ (List.mem_of_getElem? (i := 62) rfl)) (hw _ (List.mem_of_getElem? (i := 61) rfl)) (by decide) (own_bk (rm_ln l Z a0 hw b184 nn h215 n0 F232) hZ (hw _ (List.mem_of_getElem? (i := 63) rfl)) (hw _ (List.mem_of_getElem? (i := 3) rfl)) (by decide) (by decide)) e227 F225 (g := (mkF m 209 #[.val (.int p1), .val (.long q2), .second, .val (.long q3), .second, .val (.long q4), .second, .val (.int p5), .val (.int p6), .val (.int (1 : Int32)), .val (.long nn), .second, .val (.long ii), .second, .val (.long jj), .second, .val (.long kk), .second, .val (.ref b184), .val (.int ((own_upd (own_upd own_z ii p5) jj p6) ii)), .val (.int ((own_upd (own_upd own_z ii p5) jj p6) jj)), .val (.int ((own_upd (own_upd own_z ii p5) jj p6) kk)), .val (.int p6), .val (.int (0 : Int32))] [(.ref b184)])) rfl (by rw [hml]; rfl) (lenOf pd_7 rfl) rfl (by show 2 * 0 + _ ≤ _; exact Nat.le_of_eq rfl) (hb hby at_209) (by decide) (by decide) (fun v233 T233 h233 L233 X233 e233 q233 => ?_)
            obtain ⟨rfl, M233, s233⟩ := q233
            replace e233 : T233.heap = h215 := e233.trans s233
            have N233 := Fr.app N227 M233
            refine own_go (fun t k => XS.lload X233.here hx rfl (hb hby at_212) rfl  k) ?_
            show own_Run p e below Φ (T233.setTop (mkF m 214 #[.val (.int p1), .val (.long q2), .second, .val (.long q3), .second, .val (.long q4), .second, .val (.int p5), .val (.int p6), .val (.int (1 : Int32)), .val (.long nn), .second, .val (.long ii), .second, .val (.long jj), .second, .val (.long kk), .second, .val (.ref b184), .val (.int ((own_upd (own_upd own_z ii p5) jj p6) ii)), .val (.int ((own_upd (own_upd own_z ii p5) jj p6) jj)), .val (.int ((own_upd (own_upd own_z ii p5) jj p6) kk)), .val (.int p6), .val (.int (0 : Int32))] [(.long nn), (.long nn)]))
            refine own_go (fun t k => XS.lcmp X233.here hx rfl (hb hby at_214) rfl k) ?_
            have hc215 : (lcmpW nn nn) = (0 : Int32) := ((lw_eq _ _).mpr rfl)
            refine own_go (fun t k => XS.ifNo X233.here hx rfl (hb hby at_215) rfl ((if0 _ _).trans (teq hc215).2) k) ?_
            refine own_go (fun t k => XS.iconst X233.here hx rfl (hb hby at_218) k) ?_
            refine own_go (fun t k => XS.goto X233.here hx rfl (pc0 := 219) (pc' := 223) rfl (hb hby at_219) (by decide) (by decide) k) ?_
            subst hΦ
            exact own_retN X233 hx (t := .boolean) Bd.returns (by simp) hlk (hb hby at_223) e233 ⟨rfl, N233⟩ (by decide) (by decide)
      · refine own_go (fun t k => XS.ifYes X227.here hx rfl (pc0 := 141) (pc' := 149) rfl (hb hby at_141) rfl ((if0 _ _).trans (feq hc141).2) (by decide) (by decide) k) ?_
        show own_Run p e below Φ (T227.setTop (mkF m 149 #[.val (.int p1), .val (.long q2), .second, .val (.long q3), .second, .val (.long q4), .second, .val (.int p5), .val (.int p6), .val (.int (1 : Int32)), .val (.long nn), .second, .val (.long ii), .second, .val (.long jj), .second, .val (.long kk), .second, .val (.ref b184), .val (.int ((own_upd (own_upd own_z ii p5) jj p6) ii)), .val (.int ((own_upd (own_upd own_z ii p5) jj p6) jj)), .val (.int ((own_upd (own_upd own_z ii p5) jj p6) kk)), .unset, .unset] []))
        refine own_go (fun t k => XS.iload X227.here hx rfl (hb hby at_149) rfl  k) ?_
        refine own_go (fun t k => XS.istore X227.here hx rfl (hb hby at_151) rfl (l' := #[.val (.int p1), .val (.long q2), .second, .val (.long q3), .second, .val (.long q4), .second, .val (.int p5), .val (.int p6), .val (.int (1 : Int32)), .val (.long nn), .second, .val (.long ii), .second, .val (.long jj), .second, .val (.long kk), .second, .val (.ref b184), .val (.int ((own_upd (own_upd own_z ii p5) jj p6) ii)), .val (.int ((own_upd (own_upd own_z ii p5) jj p6) jj)), .val (.int ((own_upd (own_upd own_z ii p5) jj p6) kk)), .val (.int p5), .unset]) rfl k) ?_
        refine own_go (fun t k => XS.lload X227.here hx rfl (hb hby at_153) rfl  k) ?_
        refine own_go (fun t k => XS.lload X227.here hx rfl (hb hby at_155) rfl  k) ?_
        refine own_go (fun t k => XS.lcmp X227.here hx rfl (hb hby at_157) rfl k) ?_
        show own_Run p e below Φ (T227.setTop (mkF m 158 #[.val (.int p1), .val (.long q2), .second, .val (.long q3), .second, .val (.long q4), .second, .val (.int p5), .val (.int p6), .val (.int (1 : Int32)), .val (.long nn), .second, .val (.long ii), .second, .val (.long jj), .second, .val (.long kk), .second, .val (.ref b184), .val (.int ((own_upd (own_upd own_z ii p5) jj p6) ii)), .val (.int ((own_upd (own_upd own_z ii p5) jj p6) jj)), .val (.int ((own_upd (own_upd own_z ii p5) jj p6) kk)), .val (.int p5), .unset] [(.int (lcmpW kk jj))]))
        by_cases hc158 : (lcmpW kk jj) = (0 : Int32)
        · refine own_go (fun t k => XS.ifNo X227.here hx rfl (hb hby at_158) rfl ((if0 _ _).trans (teq hc158).2) k) ?_
          refine own_go (fun t k => XS.iload X227.here hx rfl (hb hby at_161) rfl  k) ?_
          refine own_go (fun t k => XS.istore X227.here hx rfl (hb hby at_163) rfl (l' := #[.val (.int p1), .val (.long q2), .second, .val (.long q3), .second, .val (.long q4), .second, .val (.int p5), .val (.int p6), .val (.int (1 : Int32)), .val (.long nn), .second, .val (.long ii), .second, .val (.long jj), .second, .val (.long kk), .second, .val (.ref b184), .val (.int ((own_upd (own_upd own_z ii p5) jj p6) ii)), .val (.int ((own_upd (own_upd own_z ii p5) jj p6) jj)), .val (.int ((own_upd (own_upd own_z ii p5) jj p6) kk)), .val (.int p5), .val (.int p6)]) rfl k) ?_
          refine own_go (fun t k => XS.goto X227.here hx rfl (pc0 := 165) (pc' := 186) rfl (hb hby at_165) (by decide) (by decide) k) ?_
          refine own_go (fun t k => XS.iload X227.here hx rfl (hb hby at_186) rfl  k) ?_
          show own_Run p e below Φ (T227.setTop (mkF m 188 #[.val (.int p1), .val (.long q2), .second, .val (.long q3), .second, .val (.long q4), .second, .val (.int p5), .val (.int p6), .val (.int (1 : Int32)), .val (.long nn), .second, .val (.long ii), .second, .val (.long jj), .second, .val (.long kk), .second, .val (.ref b184), .val (.int ((own_upd (own_upd own_z ii p5) jj p6) ii)), .val (.int ((own_upd (own_upd own_z ii p5) jj p6) jj)), .val (.int ((own_upd (own_upd own_z ii p5) jj p6) kk)), .val (.int p5), .val (.int p6)] [(.int ((own_upd (own_upd own_z ii p5) jj p6) ii))]))
          refine own_go (fun t k => XS.iload X227.here hx rfl (hb hby at_188) rfl  k) ?_
          have hc190 : ((own_upd (own_upd own_z ii p5) jj p6) ii) = p5 := ((own_u2 hc141).trans own_u1')
          refine own_go (fun t k => XS.icmpNo X227.here hx rfl (hb hby at_190) rfl (teq hc190).2 k) ?_
          refine own_go (fun t k => XS.iload X227.here hx rfl (hb hby at_193) rfl  k) ?_
          refine own_go (fun t k => XS.iload X227.here hx rfl (hb hby at_195) rfl  k) ?_
          have hc197 : ((own_upd (own_upd own_z ii p5) jj p6) jj) = p6 := own_u1'
          refine own_go (fun t k => XS.icmpNo X227.here hx rfl (hb hby at_197) rfl (teq hc197).2 k) ?_
          show own_Run p e below Φ (T227.setTop (mkF m 200 #[.val (.int p1), .val (.long q2), .second, .val (.long q3), .second, .val (.long q4), .second, .val (.int p5), .val (.int p6), .val (.int (1 : Int32)), .val (.long nn), .second, .val (.long ii), .second, .val (.long jj), .second, .val (.long kk), .second, .val (.ref b184), .val (.int ((own_upd (own_upd own_z ii p5) jj p6) ii)), .val (.int ((own_upd (own_upd own_z ii p5) jj p6) jj)), .val (.int ((own_upd (own_upd own_z ii p5) jj p6) kk)), .val (.int p5), .val (.int p6)] []))
          refine own_go (fun t k => XS.iload X227.here hx rfl (hb hby at_200) rfl  k) ?_
          refine own_go (fun t k => XS.iload X227.here hx rfl (hb hby at_202) rfl  k) ?_
          have hc204 : ((own_upd (own_upd own_z ii p5) jj p6) kk) = p6 := (own_u1 hc158)
          refine own_go (fun t k => XS.icmpNo X227.here hx rfl (hb hby at_204) rfl (teq hc204).2 k) ?_
          refine own_go (fun t k => XS.aload X227.here hx rfl (hb hby at_207) rfl rfl  k) ?_
          have F234 : Fld Z h215 b184 "com/example/hueline/hueline/model/BigIntArray" "length" "J" (.long nn) := ((P202_1.keep K206 (ninS ne_b184_x0 (ninS ne_b184_x1 (ninS ne_b184_x2 (ninS ne_b184_x3 nin0))))).keep K215 (ninS ne_b184_x0 (ninS ne_b184_x1 (ninS ne_b184_x2 (ninS ne_b184_x3 nin0)))))
          refine own_callV X227 hx hZ (y := (⟨"com/example/hueline/hueline/model/BigIntArray", "length", "()J"⟩ : MethodName)) (z := (⟨"com/example/hueline/hueline/model/BigIntArray", "length", "()J"⟩ : MethodName)) (W := 0) (a := b184) (argsL := []) (rest := []) hown (hw _ (List.mem_of_getElem? (i := 59) rfl)) (hw _ (List.mem_of_getElem? (i := 60) rfl)) (notFace_of_selects (args := #[]) (mvT hZ (hw _ (List.mem_of_getElem? (i := 62) rfl)))) (hw _ (List.mem_of_getElem? (i := 62) rfl)) (hw _ (List.mem_of_getElem? (i := 61) rfl)) (by decide) (own_bk (rm_ln l Z a0 hw b184 nn h215 n0 F234) hZ (hw _ (List.mem_of_getElem? (i := 63) rfl)) (hw _ (List.mem_of_getElem? (i := 3) rfl)) (by decide) (by decide)) e227 F225 (g := (mkF m 209 #[.val (.int p1), .val (.long q2), .second, .val (.long q3), .second, .val (.long q4), .second, .val (.int p5), .val (.int p6), .val (.int (1 : Int32)), .val (.long nn), .second, .val (.long ii), .second, .val (.long jj), .second, .val (.long kk), .second, .val (.ref b184), .val (.int ((own_upd (own_upd own_z ii p5) jj p6) ii)), .val (.int ((own_upd (own_upd own_z ii p5) jj p6) jj)), .val (.int ((own_upd (own_upd own_z ii p5) jj p6) kk)), .val (.int p5), .val (.int p6)] [(.ref b184)])) rfl (by rw [hml]; rfl) (lenOf pd_7 rfl) rfl (by show 2 * 0 + _ ≤ _; exact Nat.le_of_eq rfl) (hb hby at_209) (by decide) (by decide) (fun v235 T235 h235 L235 X235 e235 q235 => ?_)
          obtain ⟨rfl, M235, s235⟩ := q235
          replace e235 : T235.heap = h215 := e235.trans s235
          have N235 := Fr.app N227 M235
          show own_Run p e below Φ (T235.setTop (mkF m 212 #[.val (.int p1), .val (.long q2), .second, .val (.long q3), .second, .val (.long q4), .second, .val (.int p5), .val (.int p6), .val (.int (1 : Int32)), .val (.long nn), .second, .val (.long ii), .second, .val (.long jj), .second, .val (.long kk), .second, .val (.ref b184), .val (.int ((own_upd (own_upd own_z ii p5) jj p6) ii)), .val (.int ((own_upd (own_upd own_z ii p5) jj p6) jj)), .val (.int ((own_upd (own_upd own_z ii p5) jj p6) kk)), .val (.int p5), .val (.int p6)] [(.long nn)]))
          refine own_go (fun t k => XS.lload X235.here hx rfl (hb hby at_212) rfl  k) ?_
          refine own_go (fun t k => XS.lcmp X235.here hx rfl (hb hby at_214) rfl k) ?_
          have hc215 : (lcmpW nn nn) = (0 : Int32) := ((lw_eq _ _).mpr rfl)
          refine own_go (fun t k => XS.ifNo X235.here hx rfl (hb hby at_215) rfl ((if0 _ _).trans (teq hc215).2) k) ?_
          refine own_go (fun t k => XS.iconst X235.here hx rfl (hb hby at_218) k) ?_
          refine own_go (fun t k => XS.goto X235.here hx rfl (pc0 := 219) (pc' := 223) rfl (hb hby at_219) (by decide) (by decide) k) ?_
          show own_Run p e below Φ (T235.setTop (mkF m 223 #[.val (.int p1), .val (.long q2), .second, .val (.long q3), .second, .val (.long q4), .second, .val (.int p5), .val (.int p6), .val (.int (1 : Int32)), .val (.long nn), .second, .val (.long ii), .second, .val (.long jj), .second, .val (.long kk), .second, .val (.ref b184), .val (.int ((own_upd (own_upd own_z ii p5) jj p6) ii)), .val (.int ((own_upd (own_upd own_z ii p5) jj p6) jj)), .val (.int ((own_upd (own_upd own_z ii p5) jj p6) kk)), .val (.int p5), .val (.int p6)] [(.int (1 : Int32))]))
          subst hΦ
          exact own_retN X235 hx (t := .boolean) Bd.returns (by simp) hlk (hb hby at_223) e235 ⟨rfl, N235⟩ (by decide) (by decide)
        · refine own_go (fun t k => XS.ifYes X227.here hx rfl (pc0 := 158) (pc' := 168) rfl (hb hby at_158) rfl ((if0 _ _).trans (feq hc158).2) (by decide) (by decide) k) ?_
          refine own_go (fun t k => XS.lload X227.here hx rfl (hb hby at_168) rfl  k) ?_
          refine own_go (fun t k => XS.lload X227.here hx rfl (hb hby at_170) rfl  k) ?_
          refine own_go (fun t k => XS.lcmp X227.here hx rfl (hb hby at_172) rfl k) ?_
          by_cases hc173 : (lcmpW kk ii) = (0 : Int32)
          · refine own_go (fun t k => XS.ifNo X227.here hx rfl (hb hby at_173) rfl ((if0 _ _).trans (teq hc173).2) k) ?_
            show own_Run p e below Φ (T227.setTop (mkF m 176 #[.val (.int p1), .val (.long q2), .second, .val (.long q3), .second, .val (.long q4), .second, .val (.int p5), .val (.int p6), .val (.int (1 : Int32)), .val (.long nn), .second, .val (.long ii), .second, .val (.long jj), .second, .val (.long kk), .second, .val (.ref b184), .val (.int ((own_upd (own_upd own_z ii p5) jj p6) ii)), .val (.int ((own_upd (own_upd own_z ii p5) jj p6) jj)), .val (.int ((own_upd (own_upd own_z ii p5) jj p6) kk)), .val (.int p5), .unset] []))
            refine own_go (fun t k => XS.iload X227.here hx rfl (hb hby at_176) rfl  k) ?_
            refine own_go (fun t k => XS.istore X227.here hx rfl (hb hby at_178) rfl (l' := #[.val (.int p1), .val (.long q2), .second, .val (.long q3), .second, .val (.long q4), .second, .val (.int p5), .val (.int p6), .val (.int (1 : Int32)), .val (.long nn), .second, .val (.long ii), .second, .val (.long jj), .second, .val (.long kk), .second, .val (.ref b184), .val (.int ((own_upd (own_upd own_z ii p5) jj p6) ii)), .val (.int ((own_upd (own_upd own_z ii p5) jj p6) jj)), .val (.int ((own_upd (own_upd own_z ii p5) jj p6) kk)), .val (.int p5), .val (.int p5)]) rfl k) ?_
            refine own_go (fun t k => XS.goto X227.here hx rfl (pc0 := 180) (pc' := 186) rfl (hb hby at_180) (by decide) (by decide) k) ?_
            refine own_go (fun t k => XS.iload X227.here hx rfl (hb hby at_186) rfl  k) ?_
            refine own_go (fun t k => XS.iload X227.here hx rfl (hb hby at_188) rfl  k) ?_
            show own_Run p e below Φ (T227.setTop (mkF m 190 #[.val (.int p1), .val (.long q2), .second, .val (.long q3), .second, .val (.long q4), .second, .val (.int p5), .val (.int p6), .val (.int (1 : Int32)), .val (.long nn), .second, .val (.long ii), .second, .val (.long jj), .second, .val (.long kk), .second, .val (.ref b184), .val (.int ((own_upd (own_upd own_z ii p5) jj p6) ii)), .val (.int ((own_upd (own_upd own_z ii p5) jj p6) jj)), .val (.int ((own_upd (own_upd own_z ii p5) jj p6) kk)), .val (.int p5), .val (.int p5)] [(.int p5), (.int ((own_upd (own_upd own_z ii p5) jj p6) ii))]))
            have hc190 : ((own_upd (own_upd own_z ii p5) jj p6) ii) = p5 := ((own_u2 hc141).trans own_u1')
            refine own_go (fun t k => XS.icmpNo X227.here hx rfl (hb hby at_190) rfl (teq hc190).2 k) ?_
            refine own_go (fun t k => XS.iload X227.here hx rfl (hb hby at_193) rfl  k) ?_
            refine own_go (fun t k => XS.iload X227.here hx rfl (hb hby at_195) rfl  k) ?_
            have hc197 : ((own_upd (own_upd own_z ii p5) jj p6) jj) = p6 := own_u1'
            refine own_go (fun t k => XS.icmpNo X227.here hx rfl (hb hby at_197) rfl (teq hc197).2 k) ?_
            refine own_go (fun t k => XS.iload X227.here hx rfl (hb hby at_200) rfl  k) ?_
            show own_Run p e below Φ (T227.setTop (mkF m 202 #[.val (.int p1), .val (.long q2), .second, .val (.long q3), .second, .val (.long q4), .second, .val (.int p5), .val (.int p6), .val (.int (1 : Int32)), .val (.long nn), .second, .val (.long ii), .second, .val (.long jj), .second, .val (.long kk), .second, .val (.ref b184), .val (.int ((own_upd (own_upd own_z ii p5) jj p6) ii)), .val (.int ((own_upd (own_upd own_z ii p5) jj p6) jj)), .val (.int ((own_upd (own_upd own_z ii p5) jj p6) kk)), .val (.int p5), .val (.int p5)] [(.int ((own_upd (own_upd own_z ii p5) jj p6) kk))]))
            refine own_go (fun t k => XS.iload X227.here hx rfl (hb hby at_202) rfl  k) ?_
            have hc204 : ((own_upd (own_upd own_z ii p5) jj p6) kk) = p5 := ((own_u2 hc158).trans (own_u1 hc173))
            refine own_go (fun t k => XS.icmpNo X227.here hx rfl (hb hby at_204) rfl (teq hc204).2 k) ?_
            refine own_go (fun t k => XS.aload X227.here hx rfl (hb hby at_207) rfl rfl  k) ?_
            have F236 : Fld Z h215 b184 "com/example/hueline/hueline/model/BigIntArray" "length" "J" (.long nn) := ((P202_1.keep K206 (ninS ne_b184_x0 (ninS ne_b184_x1 (ninS ne_b184_x2 (ninS ne_b184_x3 nin0))))).keep K215 (ninS ne_b184_x0 (ninS ne_b184_x1 (ninS ne_b184_x2 (ninS ne_b184_x3 nin0)))))
            refine own_callV X227 hx hZ (y := (⟨"com/example/hueline/hueline/model/BigIntArray", "length", "()J"⟩ : MethodName)) (z := (⟨"com/example/hueline/hueline/model/BigIntArray", "length", "()J"⟩ : MethodName)) (W := 0) (a := b184) (argsL := []) (rest := []) hown (hw _ (List.mem_of_getElem? (i := 59) rfl)) (hw _ (List.mem_of_getElem? (i := 60) rfl)) (notFace_of_selects (args := #[]) (mvT hZ (hw _ (List.mem_of_getElem? (i := 62) rfl)))) (hw _ (List.mem_of_getElem? (i := 62) rfl)) (hw _ (List.mem_of_getElem? (i := 61) rfl)) (by decide) (own_bk (rm_ln l Z a0 hw b184 nn h215 n0 F236) hZ (hw _ (List.mem_of_getElem? (i := 63) rfl)) (hw _ (List.mem_of_getElem? (i := 3) rfl)) (by decide) (by decide)) e227 F225 (g := (mkF m 209 #[.val (.int p1), .val (.long q2), .second, .val (.long q3), .second, .val (.long q4), .second, .val (.int p5), .val (.int p6), .val (.int (1 : Int32)), .val (.long nn), .second, .val (.long ii), .second, .val (.long jj), .second, .val (.long kk), .second, .val (.ref b184), .val (.int ((own_upd (own_upd own_z ii p5) jj p6) ii)), .val (.int ((own_upd (own_upd own_z ii p5) jj p6) jj)), .val (.int ((own_upd (own_upd own_z ii p5) jj p6) kk)), .val (.int p5), .val (.int p5)] [(.ref b184)])) rfl (by rw [hml]; rfl) (lenOf pd_7 rfl) rfl (by show 2 * 0 + _ ≤ _; exact Nat.le_of_eq rfl) (hb hby at_209) (by decide) (by decide) (fun v237 T237 h237 L237 X237 e237 q237 => ?_)
            obtain ⟨rfl, M237, s237⟩ := q237
            replace e237 : T237.heap = h215 := e237.trans s237
            have N237 := Fr.app N227 M237
            refine own_go (fun t k => XS.lload X237.here hx rfl (hb hby at_212) rfl  k) ?_
            show own_Run p e below Φ (T237.setTop (mkF m 214 #[.val (.int p1), .val (.long q2), .second, .val (.long q3), .second, .val (.long q4), .second, .val (.int p5), .val (.int p6), .val (.int (1 : Int32)), .val (.long nn), .second, .val (.long ii), .second, .val (.long jj), .second, .val (.long kk), .second, .val (.ref b184), .val (.int ((own_upd (own_upd own_z ii p5) jj p6) ii)), .val (.int ((own_upd (own_upd own_z ii p5) jj p6) jj)), .val (.int ((own_upd (own_upd own_z ii p5) jj p6) kk)), .val (.int p5), .val (.int p5)] [(.long nn), (.long nn)]))
            refine own_go (fun t k => XS.lcmp X237.here hx rfl (hb hby at_214) rfl k) ?_
            have hc215 : (lcmpW nn nn) = (0 : Int32) := ((lw_eq _ _).mpr rfl)
            refine own_go (fun t k => XS.ifNo X237.here hx rfl (hb hby at_215) rfl ((if0 _ _).trans (teq hc215).2) k) ?_
            refine own_go (fun t k => XS.iconst X237.here hx rfl (hb hby at_218) k) ?_
            refine own_go (fun t k => XS.goto X237.here hx rfl (pc0 := 219) (pc' := 223) rfl (hb hby at_219) (by decide) (by decide) k) ?_
            subst hΦ
            exact own_retN X237 hx (t := .boolean) Bd.returns (by simp) hlk (hb hby at_223) e237 ⟨rfl, N237⟩ (by decide) (by decide)
          · refine own_go (fun t k => XS.ifYes X227.here hx rfl (pc0 := 173) (pc' := 183) rfl (hb hby at_173) rfl ((if0 _ _).trans (feq hc173).2) (by decide) (by decide) k) ?_
            show own_Run p e below Φ (T227.setTop (mkF m 183 #[.val (.int p1), .val (.long q2), .second, .val (.long q3), .second, .val (.long q4), .second, .val (.int p5), .val (.int p6), .val (.int (1 : Int32)), .val (.long nn), .second, .val (.long ii), .second, .val (.long jj), .second, .val (.long kk), .second, .val (.ref b184), .val (.int ((own_upd (own_upd own_z ii p5) jj p6) ii)), .val (.int ((own_upd (own_upd own_z ii p5) jj p6) jj)), .val (.int ((own_upd (own_upd own_z ii p5) jj p6) kk)), .val (.int p5), .unset] []))
            refine own_go (fun t k => XS.iconst X227.here hx rfl (hb hby at_183) k) ?_
            refine own_go (fun t k => XS.istore X227.here hx rfl (hb hby at_184) rfl (l' := #[.val (.int p1), .val (.long q2), .second, .val (.long q3), .second, .val (.long q4), .second, .val (.int p5), .val (.int p6), .val (.int (1 : Int32)), .val (.long nn), .second, .val (.long ii), .second, .val (.long jj), .second, .val (.long kk), .second, .val (.ref b184), .val (.int ((own_upd (own_upd own_z ii p5) jj p6) ii)), .val (.int ((own_upd (own_upd own_z ii p5) jj p6) jj)), .val (.int ((own_upd (own_upd own_z ii p5) jj p6) kk)), .val (.int p5), .val (.int (0 : Int32))]) rfl k) ?_
            refine own_go (fun t k => XS.iload X227.here hx rfl (hb hby at_186) rfl  k) ?_
            refine own_go (fun t k => XS.iload X227.here hx rfl (hb hby at_188) rfl  k) ?_
            have hc190 : ((own_upd (own_upd own_z ii p5) jj p6) ii) = p5 := ((own_u2 hc141).trans own_u1')
            refine own_go (fun t k => XS.icmpNo X227.here hx rfl (hb hby at_190) rfl (teq hc190).2 k) ?_
            show own_Run p e below Φ (T227.setTop (mkF m 193 #[.val (.int p1), .val (.long q2), .second, .val (.long q3), .second, .val (.long q4), .second, .val (.int p5), .val (.int p6), .val (.int (1 : Int32)), .val (.long nn), .second, .val (.long ii), .second, .val (.long jj), .second, .val (.long kk), .second, .val (.ref b184), .val (.int ((own_upd (own_upd own_z ii p5) jj p6) ii)), .val (.int ((own_upd (own_upd own_z ii p5) jj p6) jj)), .val (.int ((own_upd (own_upd own_z ii p5) jj p6) kk)), .val (.int p5), .val (.int (0 : Int32))] []))
            refine own_go (fun t k => XS.iload X227.here hx rfl (hb hby at_193) rfl  k) ?_
            refine own_go (fun t k => XS.iload X227.here hx rfl (hb hby at_195) rfl  k) ?_
            have hc197 : ((own_upd (own_upd own_z ii p5) jj p6) jj) = p6 := own_u1'
            refine own_go (fun t k => XS.icmpNo X227.here hx rfl (hb hby at_197) rfl (teq hc197).2 k) ?_
            refine own_go (fun t k => XS.iload X227.here hx rfl (hb hby at_200) rfl  k) ?_
            refine own_go (fun t k => XS.iload X227.here hx rfl (hb hby at_202) rfl  k) ?_
            show own_Run p e below Φ (T227.setTop (mkF m 204 #[.val (.int p1), .val (.long q2), .second, .val (.long q3), .second, .val (.long q4), .second, .val (.int p5), .val (.int p6), .val (.int (1 : Int32)), .val (.long nn), .second, .val (.long ii), .second, .val (.long jj), .second, .val (.long kk), .second, .val (.ref b184), .val (.int ((own_upd (own_upd own_z ii p5) jj p6) ii)), .val (.int ((own_upd (own_upd own_z ii p5) jj p6) jj)), .val (.int ((own_upd (own_upd own_z ii p5) jj p6) kk)), .val (.int p5), .val (.int (0 : Int32))] [(.int (0 : Int32)), (.int ((own_upd (own_upd own_z ii p5) jj p6) kk))]))
            have hc204 : ((own_upd (own_upd own_z ii p5) jj p6) kk) = (0 : Int32) := ((own_u2 hc158).trans (own_u2 hc173))
            refine own_go (fun t k => XS.icmpNo X227.here hx rfl (hb hby at_204) rfl (teq hc204).2 k) ?_
            refine own_go (fun t k => XS.aload X227.here hx rfl (hb hby at_207) rfl rfl  k) ?_
            have F238 : Fld Z h215 b184 "com/example/hueline/hueline/model/BigIntArray" "length" "J" (.long nn) := ((P202_1.keep K206 (ninS ne_b184_x0 (ninS ne_b184_x1 (ninS ne_b184_x2 (ninS ne_b184_x3 nin0))))).keep K215 (ninS ne_b184_x0 (ninS ne_b184_x1 (ninS ne_b184_x2 (ninS ne_b184_x3 nin0)))))
            refine own_callV X227 hx hZ (y := (⟨"com/example/hueline/hueline/model/BigIntArray", "length", "()J"⟩ : MethodName)) (z := (⟨"com/example/hueline/hueline/model/BigIntArray", "length", "()J"⟩ : MethodName)) (W := 0) (a := b184) (argsL := []) (rest := []) hown (hw _ (List.mem_of_getElem? (i := 59) rfl)) (hw _ (List.mem_of_getElem? (i := 60) rfl)) (notFace_of_selects (args := #[]) (mvT hZ (hw _ (List.mem_of_getElem? (i := 62) rfl)))) (hw _ (List.mem_of_getElem? (i := 62) rfl)) (hw _ (List.mem_of_getElem? (i := 61) rfl)) (by decide) (own_bk (rm_ln l Z a0 hw b184 nn h215 n0 F238) hZ (hw _ (List.mem_of_getElem? (i := 63) rfl)) (hw _ (List.mem_of_getElem? (i := 3) rfl)) (by decide) (by decide)) e227 F225 (g := (mkF m 209 #[.val (.int p1), .val (.long q2), .second, .val (.long q3), .second, .val (.long q4), .second, .val (.int p5), .val (.int p6), .val (.int (1 : Int32)), .val (.long nn), .second, .val (.long ii), .second, .val (.long jj), .second, .val (.long kk), .second, .val (.ref b184), .val (.int ((own_upd (own_upd own_z ii p5) jj p6) ii)), .val (.int ((own_upd (own_upd own_z ii p5) jj p6) jj)), .val (.int ((own_upd (own_upd own_z ii p5) jj p6) kk)), .val (.int p5), .val (.int (0 : Int32))] [(.ref b184)])) rfl (by rw [hml]; rfl) (lenOf pd_7 rfl) rfl (by show 2 * 0 + _ ≤ _; exact Nat.le_of_eq rfl) (hb hby at_209) (by decide) (by decide) (fun v239 T239 h239 L239 X239 e239 q239 => ?_)
            obtain ⟨rfl, M239, s239⟩ := q239
            replace e239 : T239.heap = h215 := e239.trans s239
            have N239 := Fr.app N227 M239
            refine own_go (fun t k => XS.lload X239.here hx rfl (hb hby at_212) rfl  k) ?_
            refine own_go (fun t k => XS.lcmp X239.here hx rfl (hb hby at_214) rfl k) ?_
            show own_Run p e below Φ (T239.setTop (mkF m 215 #[.val (.int p1), .val (.long q2), .second, .val (.long q3), .second, .val (.long q4), .second, .val (.int p5), .val (.int p6), .val (.int (1 : Int32)), .val (.long nn), .second, .val (.long ii), .second, .val (.long jj), .second, .val (.long kk), .second, .val (.ref b184), .val (.int ((own_upd (own_upd own_z ii p5) jj p6) ii)), .val (.int ((own_upd (own_upd own_z ii p5) jj p6) jj)), .val (.int ((own_upd (own_upd own_z ii p5) jj p6) kk)), .val (.int p5), .val (.int (0 : Int32))] [(.int (lcmpW nn nn))]))
            have hc215 : (lcmpW nn nn) = (0 : Int32) := ((lw_eq _ _).mpr rfl)
            refine own_go (fun t k => XS.ifNo X239.here hx rfl (hb hby at_215) rfl ((if0 _ _).trans (teq hc215).2) k) ?_
            refine own_go (fun t k => XS.iconst X239.here hx rfl (hb hby at_218) k) ?_
            refine own_go (fun t k => XS.goto X239.here hx rfl (pc0 := 219) (pc' := 223) rfl (hb hby at_219) (by decide) (by decide) k) ?_
            subst hΦ
            exact own_retN X239 hx (t := .boolean) Bd.returns (by simp) hlk (hb hby at_223) e239 ⟨rfl, N239⟩ (by decide) (by decide)
set_option maxRecDepth 65536 in
set_option maxHeartbeats 40000000 in
theorem comes_1 {Post : Tables → Env → Array Value → State → Outcome → State → Prop} (hpost : ∀ tb e args s v u, (limb_1_1.after args s (.returned v) u = true ∧ limb_1_2.after args s (.returned v) u = true ∧ True) → FrameEnd s (.returned v) u (Jvm.fieldLocs frame_1_writes args s ++ Jvm.arrayLocs frame_1_arrays args s ++ Jvm.staticLocs frame_1_statics s) 24 128 → Post tb e args s (.returned v) u) :
    ArmFor flags0 classFile x code maxLocals ret World_1 tables_1 room_1 Calls_1 rest_1 Pre_1 Post := by
  intro l hfl _ _ p e ha hc hk s m args below hf hA hF happ hP
  obtain ⟨hcalls, hrest, hpre⟩ := hP
  obtain ⟨-, -, -, hnamed, -, -, -, hat⟩ := (Spec.applies_iff hf).mp happ
  obtain ⟨hg, hn⟩ := and_e (Cond.before_iff.mp (show (Jvm.Cond.and given_1 narrow_1).before args s = true from hpre))
  obtain ⟨hcount, hg⟩ := and_e hg
  obtain ⟨ha0, hg⟩ := and_e hg
  obtain ⟨ha1, hg⟩ := and_e hg
  obtain ⟨ha2, hg⟩ := and_e hg
  obtain ⟨ha3, hg⟩ := and_e hg
  obtain ⟨ha4, hg⟩ := and_e hg
  have ha5 := hg
  obtain ⟨w0, w1, w2, w3, w4, w5, rfl⟩ : ∃ w0 w1 w2 w3 w4 w5 : Value, args = #[w0, w1, w2, w3, w4, w5] := by
    have hs : args.size = 6 := by simpa [Cond.value, given_1] using hcount
    obtain ⟨L⟩ := args
    match L, hs with
    | [w0, w1, w2, w3, w4, w5], _ => exact ⟨w0, w1, w2, w3, w4, w5, rfl⟩
  have hw := fun d (hd : d ∈ tables_1) => atoms_spec (ws := Jvm.Cond.code x code maxLocals ret :: tables_1) hat d (List.mem_cons_of_mem _ hd)
  have hfit : Fit s := fun {y c} hc i hi => by
    obtain ⟨ha, rfl⟩ := Array.getElem?_eq_some_iff.mp hc
    have q := List.all_eq_true.mp ((Array.all_eq_true_iff_forall_mem.mp hF) _ (Array.getElem_mem ha)) i (List.mem_range.mpr hi)
    simpa [Array.getElem?_eq_getElem hi] using q
  obtain ⟨i0, ei0⟩ := is_v ha0
  obtain rfl : w0 = (.int i0) := Option.some.inj ei0
  obtain ⟨i1, ei1⟩ := isL_v ha1
  obtain rfl : w1 = (.long i1) := Option.some.inj ei1
  obtain ⟨i2, ei2⟩ := isL_v ha2
  obtain rfl : w2 = (.long i2) := Option.some.inj ei2
  obtain ⟨i3, ei3⟩ := isL_v ha3
  obtain rfl : w3 = (.long i3) := Option.some.inj ei3
  obtain ⟨i4, ei4⟩ := is_v ha4
  obtain rfl : w4 = (.int i4) := Option.some.inj ei4
  obtain ⟨i5, ei5⟩ := is_v ha5
  obtain rfl : w5 = (.int i5) := Option.some.inj ei5
  obtain ⟨hn0, hn⟩ := and_e hn
  obtain ⟨hn1, hn⟩ := and_e hn
  obtain ⟨hn2, hn3⟩ := and_e hn
  obtain ⟨u1, eu1⟩ := exa_v hn0
  have A0 := Exa.start eu1 hn0
  have S0 := Sta.start eu1 (Or.inr ⟨hw _ (List.mem_of_getElem? (i := 8) rfl), hw _ (List.mem_of_getElem? (i := 9) rfl)⟩)
  have B0 := own_fldI eu1 hn1
  have C0 := own_fldI eu1 hn2
  have D0 := own_fldI eu1 hn3
  obtain ⟨n, o, h1, h2, h3, _, L, rfl, ⟨rfl, N⟩, hq⟩ := rm_law l s _ hw i0 i1 i2 i3 i4 i5 u1 s.heap s.heap.size (Nat.le_refl _) (Old.start s) S0 A0 B0 C0 D0 tables_1 p e ha hc hk s m _ below hf ((Spec.applies_iff_loose hf).mp happ).1 ⟨rfl, State.Warmed39.refl s, rfl⟩ trivial
  refine ⟨n, _, h1, h2, h3, hpost _ _ _ _ _ _ ⟨Cond.after_iff.mpr rfl, Cond.after_iff.mpr (eq_i res_at (Term.int_eval (1)) rfl), trivial⟩ ⟨hq.1, hq.2.1, (hq.2.2.sift fun y hy => Or.inr (N y hy)).mono (by decide) (by decide)⟩⟩
theorem main_1_1 : Claimed_1_1 := comes_1 fun _ _ _ _ _ _ h hF => ⟨h.1, hF⟩
theorem main_1_2 : Claimed_1_2 := comes_1 fun _ _ _ _ _ _ h hF => ⟨h.2.1, hF⟩
end Jvm.Pilot.@@N@@
namespace Jvm.Pilot.@@N@@
open Jvm Jvm.ClassFile Sem Op Lib Jvm.Free Jvm.Stand Jvm.Pilot.@@N@@.Jvm.D
/-! MADE BY PROGRAM (witnessworld.py) out of the Statement's table words and the real class files: 11 classes; the members and pool entries that the words name. The judged class is class 1, her method 1. -/
namespace start1
open Jvm.ClassFile
def u (s : String) : CpInfo := .utf8 (stringToUtf16 s)
/-- a pool by its gaps: so many unusable entries, then the entry; so many at the end -/
def gap : Nat → List CpInfo → List CpInfo
  | 0, r => r
  | n + 1, r => .unusable :: gap n r
def poolList (es : List (Nat × CpInfo)) (last : Nat) : List CpInfo := es.foldr (fun e r => gap e.1 (e.2 :: r)) (gap last [])
def pool (es : List (Nat × CpInfo)) (last : Nat) : Array CpInfo := ⟨poolList es last⟩
def fileOf (pool : Array CpInfo) (this : Nat) (attrs : Array Attribute := #[]) (ms : Array MethodInfo := #[]) (fl : Nat := 33) (sup : Nat := 0) (ifs : Array Nat := #[]) (fds : Array FieldInfo := #[]) : ClassFile where
  minorVersion := 0
  majorVersion := 65
  constantPool := pool
  accessFlags := fl
  thisClass := this
  superClass := sup
  interfaces := ifs
  fields := fds
  methods := ms
  attributes := attrs
def plain (name : String) (sup : Option ClassId) : Class where
  name := name
  kind := .ordinary
  loader := none
  accessFlags := 33
  super := sup
  interfaces := #[]
  cf := none
  fields := #[]
  methods := #[]
  instanceTypes := #[]
  staticTypes := #[]
  resolved := #[]
  callSites := []
  init := .initialized
  statics := none
  mirror := none

def pool0 : Array CpInfo := pool [(5, u "<init>"), (0, u "()V"), (1, .class_ 10), (1, u "java/lang/Object")] 113

def k0c0 : Code := { maxStack := 0, maxLocals := 1, code := object_method_1_code, exceptionTable := #[], attributes := #[] }
def k0m0 : Method := { name := "<init>", desc := "()V", sig := { parameters := [], returnType := none }, accessFlags := 1, code := some k0c0 }
/-- java/lang/Object -/
def k0 : Class := { plain "java/lang/Object" none with
  accessFlags := 33
  interfaces := #[]
  cf := some (fileOf pool0 8 #[] #[{ accessFlags := 1, nameIndex := 5, descriptorIndex := 6, attributes := #[] }] 33 0 #[] #[])
  fields := #[]
  methods := #[k0m0]
  instanceTypes := #[]
  staticTypes := #[]
  resolved := Array.replicate 124 none
  statics := none }

def pool1 : Array CpInfo := pool [(2, .class_ 4), (1, u "java/lang/Object"), (0, u "<init>"), (0, u "()V"), (2, .long 9223372036854775807), (1, .class_ 12), (0, u "com/example/hueline/hueline/model/BigIntArray"), (0, .class_ 14), (0, u "com/example/hueline/hueline/model/Pages"), (0, .methodref 13 16), (0, .nameAndType 5 17), (0, u "(I)V"), (0, .methodref 11 19), (0, .nameAndType 5 20), (0, u "(JLcom/example/hueline/hueline/model/Pages;)V"), (0, .methodref 11 22), (0, .nameAndType 5 23), (0, u "(J)V"), (0, .methodref 11 25), (0, .nameAndType 26 27), (0, u "set"), (0, u "(JI)V"), (0, .methodref 11 29), (0, .nameAndType 30 31), (0, u "get"), (0, u "(J)I"), (0, .methodref 11 33), (0, .nameAndType 34 35), (0, u "length"), (0, u "()J"), (0, .class_ 37), (0, u "com/example/hueline/hueline/model/BigIntArraySetPinLaw"), (2, u "law"), (0, u "(IJJJII)Z")] 3

def k1m0 : Method := { name := "<init>", desc := "()V", sig := { parameters := [], returnType := none }, accessFlags := 1, code := none }
def k1c1 : Code := { maxStack := 7, maxLocals := 24, code := code, exceptionTable := #[], attributes := #[] }
def k1m1 : Method := { name := "law", desc := "(IJJJII)Z", sig := { parameters := [.int, .long, .long, .long, .int, .int], returnType := some .boolean }, accessFlags := 9, code := some k1c1 }
/-- com/example/hueline/hueline/model/BigIntArraySetPinLaw -/
def k1 : Class := { plain "com/example/hueline/hueline/model/BigIntArraySetPinLaw" (some 0) with
  accessFlags := 49
  interfaces := #[]
  cf := some (fileOf pool1 36 #[] #[{ accessFlags := 1, nameIndex := 5, descriptorIndex := 6, attributes := #[] }, { accessFlags := 9, nameIndex := 40, descriptorIndex := 41, attributes := #[] }] 49 2 #[] #[])
  fields := #[]
  methods := #[k1m0, k1m1]
  instanceTypes := #[]
  staticTypes := #[]
  resolved := Array.replicate 45 none
  statics := none }

def pool2 : Array CpInfo := pool [(1, .fieldref 2 3), (0, .class_ 4), (0, .nameAndType 5 6), (0, u "com/example/hueline/hueline/model/Pages"), (0, u "STANDARD"), (0, u "Lcom/example/hueline/hueline/model/Pages;"), (0, .methodref 8 9), (0, .class_ 10), (0, .nameAndType 11 12), (0, u "com/example/hueline/hueline/model/BigIntArray"), (0, u "<init>"), (0, u "(JLcom/example/hueline/hueline/model/Pages;)V"), (0, .methodref 14 15), (0, .class_ 16), (0, .nameAndType 11 17), (0, u "java/lang/Object"), (0, u "()V"), (0, .fieldref 8 19), (0, .nameAndType 20 6), (0, u "layout"), (0, .methodref 2 22), (0, .nameAndType 23 24), (0, u "count"), (0, u "(J)I"), (0, .class_ 26), (0, u "[I"), (0, .fieldref 8 28), (0, .nameAndType 29 30), (0, u "pages"), (0, u "[[I"), (0, .fieldref 8 32), (0, .nameAndType 33 34), (0, u "length"), (0, u "J"), (0, .methodref 2 36), (0, .nameAndType 33 37), (0, u "(JI)I"), (0, .fieldref 8 39), (0, .nameAndType 40 26), (0, u "flat"), (0, .methodref 2 42), (0, .nameAndType 43 24), (0, u "page"), (0, .methodref 2 45), (0, .nameAndType 46 24), (0, u "offset"), (44, u "(J)V"), (3, u "()J"), (0, u "get"), (0, u "set"), (0, u "(JI)V")] 30

def k2c0 : Code := { maxStack := 4, maxLocals := 3, code := prog_36_method_1_code, exceptionTable := #[], attributes := #[] }
def k2m0 : Method := { name := "<init>", desc := "(J)V", sig := { parameters := [.long], returnType := none }, accessFlags := 1, code := some k2c0 }
def k2c1 : Code := { maxStack := 6, maxLocals := 5, code := prog_36_method_2_code, exceptionTable := #[], attributes := #[] }
def k2m1 : Method := { name := "<init>", desc := "(JLcom/example/hueline/hueline/model/Pages;)V", sig := { parameters := [.long, (.object "com/example/hueline/hueline/model/Pages")], returnType := none }, accessFlags := 0, code := some k2c1 }
def k2c2 : Code := { maxStack := 2, maxLocals := 1, code := prog_36_method_3_code, exceptionTable := #[], attributes := #[] }
def k2m2 : Method := { name := "length", desc := "()J", sig := { parameters := [], returnType := some .long }, accessFlags := 1, code := some k2c2 }
def k2c3 : Code := { maxStack := 4, maxLocals := 4, code := prog_36_method_4_code, exceptionTable := #[], attributes := #[] }
def k2m3 : Method := { name := "get", desc := "(J)I", sig := { parameters := [.long], returnType := some .int }, accessFlags := 1, code := some k2c3 }
def k2c4 : Code := { maxStack := 4, maxLocals := 5, code := prog_36_method_5_code, exceptionTable := #[], attributes := #[] }
def k2m4 : Method := { name := "set", desc := "(JI)V", sig := { parameters := [.long, .int], returnType := none }, accessFlags := 1, code := some k2c4 }
/-- com/example/hueline/hueline/model/BigIntArray -/
def k2 : Class := { plain "com/example/hueline/hueline/model/BigIntArray" (some 0) with
  accessFlags := 49
  interfaces := #[]
  cf := some (fileOf pool2 8 #[] #[{ accessFlags := 1, nameIndex := 11, descriptorIndex := 91, attributes := #[] }, { accessFlags := 0, nameIndex := 11, descriptorIndex := 12, attributes := #[] }, { accessFlags := 1, nameIndex := 33, descriptorIndex := 95, attributes := #[] }, { accessFlags := 1, nameIndex := 96, descriptorIndex := 24, attributes := #[] }, { accessFlags := 1, nameIndex := 97, descriptorIndex := 98, attributes := #[] }] 49 14 #[] #[{ accessFlags := 18, nameIndex := 20, descriptorIndex := 6, attributes := #[] }, { accessFlags := 2, nameIndex := 29, descriptorIndex := 30, attributes := #[] }, { accessFlags := 2, nameIndex := 40, descriptorIndex := 26, attributes := #[] }, { accessFlags := 2, nameIndex := 33, descriptorIndex := 34, attributes := #[] }])
  fields := #[{ name := "layout", type := (.object "com/example/hueline/hueline/model/Pages"), accessFlags := 18, slot := 0, constantValue := 0 }, { name := "pages", type := (.array (.array .int)), accessFlags := 2, slot := 1, constantValue := 0 }, { name := "flat", type := (.array .int), accessFlags := 2, slot := 2, constantValue := 0 }, { name := "length", type := .long, accessFlags := 2, slot := 3, constantValue := 0 }]
  methods := #[k2m0, k2m1, k2m2, k2m3, k2m4]
  instanceTypes := #[(.object "com/example/hueline/hueline/model/Pages"), (.array (.array .int)), (.array .int), .long]
  staticTypes := #[]
  resolved := Array.replicate 129 none
  statics := none }

def pool3 : Array CpInfo := pool [(1, .methodref 2 3), (0, .class_ 4), (0, .nameAndType 5 6), (0, u "java/lang/Object"), (0, u "<init>"), (0, u "()V"), (0, .fieldref 8 9), (0, .class_ 10), (0, .nameAndType 11 12), (0, u "com/example/hueline/hueline/model/Pages"), (0, u "shift"), (0, u "I"), (0, .fieldref 8 14), (0, .nameAndType 15 12), (0, u "length"), (0, .fieldref 8 17), (0, .nameAndType 18 12), (0, u "mask"), (23, u "offset"), (0, u "(J)I"), (0, .methodref 45 46), (0, .class_ 47), (0, .nameAndType 48 49), (0, u "java/lang/Math"), (0, u "min"), (0, u "(JJ)J"), (2, u "page"), (1, .class_ 56), (1, u "com/example/hueline/hueline/model/Pages$PagePart"), (4, .long 2147483639), (11, u "count"), (5, u "(I)V"), (2, u "STANDARD"), (0, u "Lcom/example/hueline/hueline/model/Pages;"), (0, u "LARGEST_SHIFT"), (7, u "(JI)I")] 23

def k3c0 : Code := { maxStack := 3, maxLocals := 2, code := prog_46_method_1_code, exceptionTable := #[], attributes := #[] }
def k3m0 : Method := { name := "<init>", desc := "(I)V", sig := { parameters := [.int], returnType := none }, accessFlags := 0, code := some k3c0 }
def k3c1 : Code := { maxStack := 3, maxLocals := 3, code := prog_46_method_3_code, exceptionTable := #[], attributes := #[] }
def k3m1 : Method := { name := "page", desc := "(J)I", sig := { parameters := [.long], returnType := some .int }, accessFlags := 0, code := some k3c1 }
def k3c2 : Code := { maxStack := 2, maxLocals := 3, code := prog_46_method_4_code, exceptionTable := #[], attributes := #[] }
def k3m2 : Method := { name := "offset", desc := "(J)I", sig := { parameters := [.long], returnType := some .int }, accessFlags := 0, code := some k3c2 }
def k3c3 : Code := { maxStack := 4, maxLocals := 5, code := prog_46_method_6_code, exceptionTable := #[], attributes := #[] }
def k3m3 : Method := { name := "count", desc := "(J)I", sig := { parameters := [.long], returnType := some .int }, accessFlags := 0, code := some k3c3 }
def k3c4 : Code := { maxStack := 7, maxLocals := 4, code := prog_46_method_7_code, exceptionTable := #[], attributes := #[] }
def k3m4 : Method := { name := "length", desc := "(JI)I", sig := { parameters := [.long, .int], returnType := some .int }, accessFlags := 0, code := some k3c4 }
/-- com/example/hueline/hueline/model/Pages -/
def k3 : Class := { plain "com/example/hueline/hueline/model/Pages" (some 0) with
  accessFlags := 48
  interfaces := #[]
  cf := some (fileOf pool3 8 #[.nestMembers #[54]] #[{ accessFlags := 0, nameIndex := 5, descriptorIndex := 79, attributes := #[] }, { accessFlags := 0, nameIndex := 52, descriptorIndex := 43, attributes := #[] }, { accessFlags := 0, nameIndex := 42, descriptorIndex := 43, attributes := #[] }, { accessFlags := 0, nameIndex := 73, descriptorIndex := 43, attributes := #[] }, { accessFlags := 0, nameIndex := 15, descriptorIndex := 92, attributes := #[] }] 48 2 #[] #[{ accessFlags := 26, nameIndex := 84, descriptorIndex := 12, attributes := #[] }, { accessFlags := 24, nameIndex := 82, descriptorIndex := 83, attributes := #[] }, { accessFlags := 16, nameIndex := 15, descriptorIndex := 12, attributes := #[] }, { accessFlags := 18, nameIndex := 11, descriptorIndex := 12, attributes := #[] }, { accessFlags := 18, nameIndex := 18, descriptorIndex := 12, attributes := #[] }])
  fields := #[{ name := "LARGEST_SHIFT", type := .int, accessFlags := 26, slot := 0, constantValue := 0 }, { name := "STANDARD", type := (.object "com/example/hueline/hueline/model/Pages"), accessFlags := 24, slot := 1, constantValue := 0 }, { name := "length", type := .int, accessFlags := 16, slot := 0, constantValue := 0 }, { name := "shift", type := .int, accessFlags := 18, slot := 1, constantValue := 0 }, { name := "mask", type := .int, accessFlags := 18, slot := 2, constantValue := 0 }]
  methods := #[k3m0, k3m1, k3m2, k3m3, k3m4]
  instanceTypes := #[.int, .int, .int]
  staticTypes := #[.int, (.object "com/example/hueline/hueline/model/Pages")]
  resolved := Array.replicate 116 none
  statics := some 0 }

def pool4 : Array CpInfo := pool [(1, .class_ 2), (0, u "java/lang/Math"), (1, .class_ 6), (1, u "java/lang/Object"), (0, u "<init>"), (0, u "()V"), (89, .class_ 100), (1, u "java/lang/Math$RandomNumberGeneratorHolder"), (20, u "(JJ)J"), (50, u "negativeZeroFloatBits"), (0, u "J"), (2, u "negativeZeroDoubleBits"), (24, u "min"), (43, u "$assertionsDisabled"), (0, u "Z"), (91, u "twoToTheDoubleScaleDown"), (0, u "D"), (4, u "twoToTheDoubleScaleUp"), (9, u "E"), (3, u "PI"), (2, u "TAU"), (2, u "DEGREES_TO_RADIANS"), (0, u "RADIANS_TO_DEGREES")] 94

def k4m0 : Method := { name := "<init>", desc := "()V", sig := { parameters := [], returnType := none }, accessFlags := 2, code := none }
def k4c1 : Code := { maxStack := 4, maxLocals := 4, code := jdk_29_method_70_code, exceptionTable := #[], attributes := #[] }
def k4m1 : Method := { name := "min", desc := "(JJ)J", sig := { parameters := [.long, .long], returnType := some .long }, accessFlags := 9, code := some k4c1 }
/-- java/lang/Math -/
def k4 : Class := { plain "java/lang/Math" (some 0) with
  accessFlags := 49
  interfaces := #[]
  cf := some (fileOf pool4 1 #[.nestMembers #[98]] #[{ accessFlags := 2, nameIndex := 7, descriptorIndex := 8, attributes := #[] }, { accessFlags := 9, nameIndex := 201, descriptorIndex := 121, attributes := #[] }] 49 4 #[] #[{ accessFlags := 25, nameIndex := 354, descriptorIndex := 339, attributes := #[] }, { accessFlags := 25, nameIndex := 358, descriptorIndex := 339, attributes := #[] }, { accessFlags := 25, nameIndex := 361, descriptorIndex := 339, attributes := #[] }, { accessFlags := 26, nameIndex := 364, descriptorIndex := 339, attributes := #[] }, { accessFlags := 26, nameIndex := 365, descriptorIndex := 339, attributes := #[] }, { accessFlags := 26, nameIndex := 172, descriptorIndex := 173, attributes := #[] }, { accessFlags := 26, nameIndex := 176, descriptorIndex := 173, attributes := #[] }, { accessFlags := 8, nameIndex := 344, descriptorIndex := 339, attributes := #[] }, { accessFlags := 8, nameIndex := 338, descriptorIndex := 339, attributes := #[] }, { accessFlags := 4120, nameIndex := 245, descriptorIndex := 246, attributes := #[] }])
  fields := #[{ name := "E", type := .double, accessFlags := 25, slot := 0, constantValue := 0 }, { name := "PI", type := .double, accessFlags := 25, slot := 1, constantValue := 0 }, { name := "TAU", type := .double, accessFlags := 25, slot := 2, constantValue := 0 }, { name := "DEGREES_TO_RADIANS", type := .double, accessFlags := 26, slot := 3, constantValue := 0 }, { name := "RADIANS_TO_DEGREES", type := .double, accessFlags := 26, slot := 4, constantValue := 0 }, { name := "negativeZeroFloatBits", type := .long, accessFlags := 26, slot := 5, constantValue := 0 }, { name := "negativeZeroDoubleBits", type := .long, accessFlags := 26, slot := 6, constantValue := 0 }, { name := "twoToTheDoubleScaleUp", type := .double, accessFlags := 8, slot := 7, constantValue := 0 }, { name := "twoToTheDoubleScaleDown", type := .double, accessFlags := 8, slot := 8, constantValue := 0 }, { name := "$assertionsDisabled", type := .boolean, accessFlags := 4120, slot := 9, constantValue := 0 }]
  methods := #[k4m0, k4m1]
  instanceTypes := #[]
  staticTypes := #[.double, .double, .double, .double, .double, .long, .long, .double, .double, .boolean]
  resolved := Array.replicate 460 none
  statics := none }

def pool5 : Array CpInfo := pool [(1, u "java/lang/Cloneable"), (0, .class_ 1), (0, u "java/lang/Object"), (0, .class_ 3)] 3

/-- java/lang/Cloneable -/
def k5 : Class := { plain "java/lang/Cloneable" (some 0) with
  accessFlags := 1537
  interfaces := #[]
  cf := some (fileOf pool5 2 #[] #[] 1537 4 #[] #[])
  fields := #[]
  methods := #[]
  instanceTypes := #[]
  staticTypes := #[]
  resolved := Array.replicate 8 none
  statics := none }

def pool6 : Array CpInfo := pool [(1, u "java/io/Serializable"), (0, .class_ 1), (0, u "java/lang/Object"), (0, .class_ 3)] 3

/-- java/io/Serializable -/
def k6 : Class := { plain "java/io/Serializable" (some 0) with
  accessFlags := 1537
  interfaces := #[]
  cf := some (fileOf pool6 2 #[] #[] 1537 4 #[] #[])
  fields := #[]
  methods := #[]
  instanceTypes := #[]
  staticTypes := #[]
  resolved := Array.replicate 8 none
  statics := none }

/-- the primitive byte -/
def k7 : Class := { plain "byte" none with kind := .primitive 'B', accessFlags := 0x411 }
/-- [B -/
def k8 : Class := { plain "[B" (some 0) with kind := .array 7 .byte, interfaces := #[5, 6], accessFlags := 1041 }

/-- the primitive int -/
def k9 : Class := { plain "int" none with kind := .primitive 'I', accessFlags := 0x411 }
/-- [I -/
def k10 : Class := { plain "[I" (some 0) with kind := .array 9 .int, interfaces := #[5, 6], accessFlags := 1041 }

def heap : Heap := #[{ cls := 3, slots := #[.int 0, .ref 1], vm := .statics 3 },
  { cls := 3, slots := #[.int 1073741824, .int 30, .int 1073741823], vm := .none }]
/-- [[I -/
def k11 : Class := { plain "[[I" (some 0) with kind := .array 10 (.array .int), interfaces := #[5, 6], accessFlags := 1041 }
def classes : Array Class := #[k0, k1, k2, k3, k4, k5, k6, k7, k8, k9, k10, k11]
def interned : List (Array UInt16 × Addr) := []
def slotsUsed : Nat := 5
def theMethod : MethodId := ⟨1, 1⟩
def args0 : Array Value := #[.int 9, .long 5, .long 3, .long 1, .int 9, .int 3]
def aboutOver (below : List Frame) : State where
  vm := { classes := classes, interned := interned.toArray }
  heap := heap
  slotsUsed := slotsUsed
  threads := #[{ frames := .invoking theMethod args0 :: below }]
def below0 : List Frame := [.native { method := ⟨0, 0⟩, args := #[] }]
def about1 : State := aboutOver below0
def p0 : Program := .bare "" "" ""
def e0 : Env := launch0.env 0 0 0
theorem w_frames : about1.frames = Frame.invoking theMethod args0 :: below0 := rfl
set_option maxRecDepth 65536 in
theorem w_args : argsFit about1.vm theMethod args0 = true := by decide +kernel
set_option maxRecDepth 65536 in
theorem w_heap : heapFits about1 = true := by decide +kernel
set_option maxRecDepth 65536 in
theorem w_runnable : about1.curStatus? = some .runnable := by decide +kernel
set_option maxRecDepth 65536 in
theorem w_alone : about1.alone = true := by decide +kernel
set_option maxRecDepth 65536 in
theorem w_named : about1.methodNamed? x = some theMethod := by decide +kernel
set_option maxRecDepth 65536 in
theorem w_hears : about1.hears theMethod below0 = true := by decide +kernel
set_option maxRecDepth 65536 in
theorem w_ripe : about1.ripe theMethod args0 below0 = true := by decide +kernel
theorem w_running : about1.status = .running := rfl
set_option maxRecDepth 65536 in
theorem w_room : about1.hasRoom e0.platform room_1 = true :=
  launch0.hasRoom_least _ room_1 (by decide +kernel) (by decide +kernel) (by decide +kernel) (by decide +kernel) (by decide +kernel) (by decide +kernel)
theorem allAtoms_all (ts : List Jvm.Cond) (a : Array Jvm.Value) (st : Jvm.State) : (allAtoms ts).before a st = ts.all (fun c => c.before a st) := by
  induction ts with
  | nil => rfl
  | cons c t ih =>
    show (Jvm.Cond.and c (allAtoms t)).before a st = _
    rw [Jvm.Cond.before_and, ih, List.all_cons]
def words1 : List Jvm.Cond := Jvm.Cond.code x code maxLocals ret :: tables_1
/-- a 'code' word, met by the world's own term for the bytes: nothing is compared byte by byte -/
theorem code_word {y : MethodName} {bytes : ByteArray} {mx : Nat} {rt : Option FieldType} {a : Array Value} {s : State} {m : MethodId} {meth : Method} {c : Code} (h1 : s.methodNamed? y = some m) (h2 : s.vm.method? m = some meth) (h3 : meth.code = some c) (h4 : c.code = bytes)
    (h5 : (c.maxLocals == mx && c.exceptionTable.isEmpty && decide (c.maxStack ≤ mostOperands) && decide (meth.sig.returnType = rt) && !meth.locks && decide (parseMethodDescriptor y.desc = some meth.sig)) = true) : (Jvm.Cond.code y bytes mx rt).before a s = true := by
  simp only [Bool.and_eq_true, beq_iff_eq, Bool.not_eq_true', decide_eq_true_eq] at h5
  obtain ⟨⟨⟨⟨⟨g1, g2⟩, g3⟩, g4⟩, g5⟩, g6⟩ := h5
  simp [Cond.before, Cond.holds, Cond.value, h1, h2, h3, h4, g1, g2, g3, g4, g5, g6]
def isCode : Jvm.Cond → Bool
  | .code _ _ _ _ => true
  | _ => false
theorem all_split {L : List Jvm.Cond} {P : Jvm.Cond → Bool} (h1 : L.all (fun c => isCode c || P c) = true) (h2 : ∀ c ∈ L.filter isCode, P c = true) : L.all P = true := by
  refine List.all_eq_true.mpr fun c hc => ?_
  have h := List.all_eq_true.mp h1 c hc
  rcases Bool.eq_false_or_eq_true (isCode c) with hi | hi
  · exact h2 c (List.mem_filter.mpr ⟨hc, hi⟩)
  · simpa [hi] using h
set_option maxRecDepth 65536 in
theorem w_c0 : (Jvm.Cond.code x code maxLocals ret).before args0 about1 = true := code_word (m := ⟨1, 1⟩) (meth := k1m1) (c := k1c1) (by decide +kernel) rfl rfl rfl (by decide +kernel)
set_option maxRecDepth 65536 in
theorem w_c1 : (Jvm.Cond.code ({ cls := "com/example/hueline/hueline/model/BigIntArray", name := "<init>", desc := "(J)V" } : Jvm.MethodName) prog_36_method_1_code (3 : Nat) (Option.none : Option Jvm.ClassFile.FieldType)).before args0 about1 = true := code_word (m := ⟨2, 0⟩) (meth := k2m0) (c := k2c0) (by decide +kernel) rfl rfl rfl (by decide +kernel)
set_option maxRecDepth 65536 in
theorem w_c2 : (Jvm.Cond.code ({ cls := "com/example/hueline/hueline/model/BigIntArray", name := "<init>", desc := "(JLcom/example/hueline/hueline/model/Pages;)V" } : Jvm.MethodName) prog_36_method_2_code (5 : Nat) (Option.none : Option Jvm.ClassFile.FieldType)).before args0 about1 = true := code_word (m := ⟨2, 1⟩) (meth := k2m1) (c := k2c1) (by decide +kernel) rfl rfl rfl (by decide +kernel)
set_option maxRecDepth 65536 in
theorem w_c3 : (Jvm.Cond.code ({ cls := "java/lang/Object", name := "<init>", desc := "()V" } : Jvm.MethodName) object_method_1_code (1 : Nat) (Option.none : Option Jvm.ClassFile.FieldType)).before args0 about1 = true := code_word (m := ⟨0, 0⟩) (meth := k0m0) (c := k0c0) (by decide +kernel) rfl rfl rfl (by decide +kernel)
set_option maxRecDepth 65536 in
theorem w_c4 : (Jvm.Cond.code ({ cls := "com/example/hueline/hueline/model/Pages", name := "count", desc := "(J)I" } : Jvm.MethodName) prog_46_method_6_code (5 : Nat) (Option.some Jvm.ClassFile.FieldType.int)).before args0 about1 = true := code_word (m := ⟨3, 3⟩) (meth := k3m3) (c := k3c3) (by decide +kernel) rfl rfl rfl (by decide +kernel)
set_option maxRecDepth 65536 in
theorem w_c5 : (Jvm.Cond.code ({ cls := "com/example/hueline/hueline/model/Pages", name := "length", desc := "(JI)I" } : Jvm.MethodName) prog_46_method_7_code (4 : Nat) (Option.some Jvm.ClassFile.FieldType.int)).before args0 about1 = true := code_word (m := ⟨3, 4⟩) (meth := k3m4) (c := k3c4) (by decide +kernel) rfl rfl rfl (by decide +kernel)
set_option maxRecDepth 65536 in
theorem w_c6 : (Jvm.Cond.code ({ cls := "java/lang/Math", name := "min", desc := "(JJ)J" } : Jvm.MethodName) jdk_29_method_70_code (4 : Nat) (Option.some Jvm.ClassFile.FieldType.long)).before args0 about1 = true := code_word (m := ⟨4, 1⟩) (meth := k4m1) (c := k4c1) (by decide +kernel) rfl rfl rfl (by decide +kernel)
set_option maxRecDepth 65536 in
theorem w_c7 : (Jvm.Cond.code ({ cls := "com/example/hueline/hueline/model/BigIntArray", name := "set", desc := "(JI)V" } : Jvm.MethodName) prog_36_method_5_code (5 : Nat) (Option.none : Option Jvm.ClassFile.FieldType)).before args0 about1 = true := code_word (m := ⟨2, 4⟩) (meth := k2m4) (c := k2c4) (by decide +kernel) rfl rfl rfl (by decide +kernel)
set_option maxRecDepth 65536 in
theorem w_c8 : (Jvm.Cond.code ({ cls := "com/example/hueline/hueline/model/BigIntArray", name := "get", desc := "(J)I" } : Jvm.MethodName) prog_36_method_4_code (4 : Nat) (Option.some Jvm.ClassFile.FieldType.int)).before args0 about1 = true := code_word (m := ⟨2, 3⟩) (meth := k2m3) (c := k2c3) (by decide +kernel) rfl rfl rfl (by decide +kernel)
set_option maxRecDepth 65536 in
theorem w_c9 : (Jvm.Cond.code ({ cls := "com/example/hueline/hueline/model/BigIntArray", name := "length", desc := "()J" } : Jvm.MethodName) prog_36_method_3_code (1 : Nat) (Option.some Jvm.ClassFile.FieldType.long)).before args0 about1 = true := code_word (m := ⟨2, 2⟩) (meth := k2m2) (c := k2c2) (by decide +kernel) rfl rfl rfl (by decide +kernel)
set_option maxRecDepth 65536 in
theorem w_c10 : (Jvm.Cond.code ({ cls := "com/example/hueline/hueline/model/Pages", name := "<init>", desc := "(I)V" } : Jvm.MethodName) prog_46_method_1_code (2 : Nat) (Option.none : Option Jvm.ClassFile.FieldType)).before args0 about1 = true := code_word (m := ⟨3, 0⟩) (meth := k3m0) (c := k3c0) (by decide +kernel) rfl rfl rfl (by decide +kernel)
set_option maxRecDepth 65536 in
theorem w_c11 : (Jvm.Cond.code ({ cls := "com/example/hueline/hueline/model/Pages", name := "page", desc := "(J)I" } : Jvm.MethodName) prog_46_method_3_code (3 : Nat) (Option.some Jvm.ClassFile.FieldType.int)).before args0 about1 = true := code_word (m := ⟨3, 1⟩) (meth := k3m1) (c := k3c1) (by decide +kernel) rfl rfl rfl (by decide +kernel)
set_option maxRecDepth 65536 in
theorem w_c12 : (Jvm.Cond.code ({ cls := "com/example/hueline/hueline/model/Pages", name := "offset", desc := "(J)I" } : Jvm.MethodName) prog_46_method_4_code (3 : Nat) (Option.some Jvm.ClassFile.FieldType.int)).before args0 about1 = true := code_word (m := ⟨3, 2⟩) (meth := k3m2) (c := k3c2) (by decide +kernel) rfl rfl rfl (by decide +kernel)
def codes1 : List Jvm.Cond := [Jvm.Cond.code x code maxLocals ret, Jvm.Cond.code ({ cls := "com/example/hueline/hueline/model/BigIntArray", name := "<init>", desc := "(J)V" } : Jvm.MethodName) prog_36_method_1_code (3 : Nat) (Option.none : Option Jvm.ClassFile.FieldType), Jvm.Cond.code ({ cls := "com/example/hueline/hueline/model/BigIntArray", name := "<init>", desc := "(JLcom/example/hueline/hueline/model/Pages;)V" } : Jvm.MethodName) prog_36_method_2_code (5 : Nat) (Option.none : Option Jvm.ClassFile.FieldType), Jvm.Cond.code ({ cls := "java/lang/Object", name := "<init>", desc := "()V" } : Jvm.MethodName) object_method_1_code (1 : Nat) (Option.none : Option Jvm.ClassFile.FieldType), Jvm.Cond.code ({ cls := "com/example/hueline/hueline/model/Pages", name := "count", desc := "(J)I" } : Jvm.MethodName) prog_46_method_6_code (5 : Nat) (Option.some Jvm.ClassFile.FieldType.int), Jvm.Cond.code ({ cls := "com/example/hueline/hueline/model/Pages", name := "length", desc := "(JI)I" } : Jvm.MethodName) prog_46_method_7_code (4 : Nat) (Option.some Jvm.ClassFile.FieldType.int), Jvm.Cond.code ({ cls := "java/lang/Math", name := "min", desc := "(JJ)J" } : Jvm.MethodName) jdk_29_method_70_code (4 : Nat) (Option.some Jvm.ClassFile.FieldType.long), Jvm.Cond.code ({ cls := "com/example/hueline/hueline/model/BigIntArray", name := "set", desc := "(JI)V" } : Jvm.MethodName) prog_36_method_5_code (5 : Nat) (Option.none : Option Jvm.ClassFile.FieldType), Jvm.Cond.code ({ cls := "com/example/hueline/hueline/model/BigIntArray", name := "get", desc := "(J)I" } : Jvm.MethodName) prog_36_method_4_code (4 : Nat) (Option.some Jvm.ClassFile.FieldType.int), Jvm.Cond.code ({ cls := "com/example/hueline/hueline/model/BigIntArray", name := "length", desc := "()J" } : Jvm.MethodName) prog_36_method_3_code (1 : Nat) (Option.some Jvm.ClassFile.FieldType.long), Jvm.Cond.code ({ cls := "com/example/hueline/hueline/model/Pages", name := "<init>", desc := "(I)V" } : Jvm.MethodName) prog_46_method_1_code (2 : Nat) (Option.none : Option Jvm.ClassFile.FieldType), Jvm.Cond.code ({ cls := "com/example/hueline/hueline/model/Pages", name := "page", desc := "(J)I" } : Jvm.MethodName) prog_46_method_3_code (3 : Nat) (Option.some Jvm.ClassFile.FieldType.int), Jvm.Cond.code ({ cls := "com/example/hueline/hueline/model/Pages", name := "offset", desc := "(J)I" } : Jvm.MethodName) prog_46_method_4_code (3 : Nat) (Option.some Jvm.ClassFile.FieldType.int)]
set_option maxRecDepth 65536 in
theorem codes_eq : words1.filter isCode = codes1 := rfl
theorem w_codes : ∀ c ∈ words1.filter isCode, c.before args0 about1 = true := by
  rw [codes_eq]
  intro c hc
  simp only [codes1, List.mem_cons, List.not_mem_nil, or_false] at hc
  rcases hc with rfl | rfl | rfl | rfl | rfl | rfl | rfl | rfl | rfl | rfl | rfl | rfl | rfl
  · exact w_c0
  · exact w_c1
  · exact w_c2
  · exact w_c3
  · exact w_c4
  · exact w_c5
  · exact w_c6
  · exact w_c7
  · exact w_c8
  · exact w_c9
  · exact w_c10
  · exact w_c11
  · exact w_c12
set_option maxRecDepth 65536 in
theorem w_t1 : (words1.take 24).all (fun c => isCode c || c.before args0 about1) = true := by decide +kernel
set_option maxRecDepth 65536 in
theorem w_t2 : ((words1.drop 24).take 24).all (fun c => isCode c || c.before args0 about1) = true := by decide +kernel
set_option maxRecDepth 65536 in
theorem w_t3 : (((words1.drop 24).drop 24).take 24).all (fun c => isCode c || c.before args0 about1) = true := by decide +kernel
set_option maxRecDepth 65536 in
theorem w_t4 : (((words1.drop 24).drop 24).drop 24).all (fun c => isCode c || c.before args0 about1) = true := by decide +kernel
theorem w_tables : (allAtoms (Jvm.Cond.code x code maxLocals ret :: tables_1)).before args0 about1 = true := by
  rw [allAtoms_all]
  show words1.all (fun c => c.before args0 about1) = true
  refine all_split ?_ w_codes
  rw [← List.take_append_drop 24 words1, List.all_append, w_t1, ← List.take_append_drop 24 (words1.drop 24), List.all_append, w_t2, ← List.take_append_drop 24 ((words1.drop 24).drop 24), List.all_append, w_t3, w_t4]
  rfl
set_option maxRecDepth 65536 in
theorem w_case : (Jvm.Cond.and given_1 narrow_1).before args0 about1 = true := by decide +kernel
theorem w_applies : (headSpec (Jvm.Cond.code x code maxLocals ret :: tables_1) room_1).applies x e0.platform about1 = true :=
  (Spec.applies_iff w_frames).mpr ⟨w_running, w_runnable, w_alone, w_named, w_hears, w_ripe, w_room, w_tables⟩
theorem atStart : AtStart classFile x code maxLocals ret World_1 tables_1 room_1 Calls_1 rest_1 Pre_1 launch0 p0 e0 about1 theMethod args0 below0 :=
  ⟨lists_1, trivial, launch0.admits_env _ _ _, launch0.least_env, fairChoices_fair.cas, fairChoices_fair.clock, w_frames, w_args, w_heap, w_applies, trivial, trivial, w_case⟩
end start1
theorem witness_1 : WitnessClaimed_1 := ⟨start1.p0, start1.e0, start1.about1, start1.theMethod, start1.args0, start1.below0, start1.atStart⟩
end Jvm.Pilot.@@N@@
