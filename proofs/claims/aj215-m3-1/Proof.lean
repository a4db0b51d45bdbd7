import JvmDerived
import JvmDerived.Pilot.@@N@@Statement
import JvmDerived.Pilot.@@N@@Code
set_option linter.unusedVariables false
set_option linter.unusedSimpArgs false
set_option maxHeartbeats 40000000
namespace Jvm.RoadKit
open Sem ClassFile Op Lib Jvm.Stand Jvm.Free Jvm.LawKit
section New
variable {p : Program} {l : Launch} {e : Env} {R : Room} {s : State} {m : MethodId} {args : Array Value} {below : List Frame} {meth : Method} {c : Code} {T : State} {locs : List Loc} {cells slots : Nat}
theorem retI (X : Stand p l e R s m args below meth c T locs cells slots) (hx : p.tables.exec = Jvm.exec) {pc : Nat} {Ls : Array Slot} {z : Int32} {rest : List Value} (hret : meth.sig.returnType = some .int) (hd : decode c.code pc = .ok (.ireturn, 1)) {fs : List Frame}
    (hl : ∀ (f : JFrame) (acts : List Action), f.method = m → f.locked = none → f.entered = [] → (doReturn e (T.setTop f) acts (some (.int z))).1 = T.setFrames fs) : Steps p.tables e below (T.setTop (mkF m pc Ls (.int z :: rest))) (T.setFrames fs) := by
  have hm' : T.vm.method? m = some meth := X.method'
  have hn : narrow .int (.int z) = .int z := rfl
  show Steps p.tables e below (T.setTop { method := m, pc := pc, locals := Ls, stack := _ :: rest, locked := none }) _
  jvm_step X.here [X.here.top, hx, hd, hm', hret, hn]
  first | (intro acts; rw [hl _ acts rfl rfl rfl]) | rw [hl _ _ rfl rfl rfl]
  exact Steps.refl _
end New
end Jvm.RoadKit
/- laws to paste: Road.backV (cut by pick.py; bodies as the Statement names them) -/
namespace Jvm.Pilot.@@N@@
namespace StrChars
open Jvm Sem ClassFile Op Lib Jvm.Stand Jvm.Free.XT Jvm.Free.ALB Jvm.Free.JM Jvm.Free
open Jvm.Lib.Cold (StaticIs)
/-- a char array whose places are chars -/
def Ch (a : Addr) (A : Cell) (U : State) : Prop := Arr .char a A U ∧ Typed .char A
theorem Ch.mv {a : Addr} {A : Cell} {U U' : State} (h : Ch a A U) (hal : U.vm.Alike U'.vm) (hh : U'.heap = U.heap) : Ch a A U' := ⟨h.1.mv hal hh, h.2⟩
theorem Ch.keep {a : Addr} {A : Cell} {U U' : State} (h : Ch a A U) (hal : U.vm.Alike U'.vm) (hk : U'.heap[a]? = some A) : Ch a A U' := ⟨h.1.keep hal hk, h.2⟩
/-- what place i of a char[]'s cell holds -/
def cv (A : Cell) (i : Nat) : Int32 := match A.slots[i]? with | some (.int x) => x | _ => 0
theorem Ch.get {a : Addr} {A : Cell} {U : State} (h : Ch a A U) {i : Nat} (hi : i < A.slots.size) : A.slots[i]? = some (.int (cv A i)) := by
  have e := Array.getElem?_eq_getElem hi
  have f := h.2 i _ e
  unfold cv; rw [e]
  generalize A.slots[i] = v at f
  cases v <;> simp [fits] at f ⊢
/-- the byte that i2b leaves of a char -/
def lo8 (x : Int32) : Int32 := x.toInt8.toInt32
theorem fits_lo8 (y : Int32) : fits .byte (.int (lo8 y)) = true := by
  have h1 := y.toInt8.le_toInt
  have h2 := y.toInt8.toInt_lt
  simp only [lo8, fits, Bool.and_eq_true, decide_eq_true_eq, Int32.le_iff_toInt_le, Int8.toInt_toInt32, show (-128 : Int32).toInt = -128 from by decide, show (127 : Int32).toInt = 127 from by decide]
  omega
/-- A' is A but that each place j of lo .. hi - 1 holds f j -/
def Laid (A A' : Cell) (lo hi : Nat) (f : Nat → Value) : Prop := A'.cls = A.cls ∧ A'.vm = A.vm ∧ A'.slots.size = A.slots.size ∧ ∀ i, A'.slots[i]? = if lo ≤ i ∧ i < hi then some (f i) else A.slots[i]?
theorem Laid.zero (A : Cell) (lo : Nat) (f : Nat → Value) : Laid A A lo (lo + 0) f := ⟨rfl, rfl, rfl, fun i => by rw [if_neg (by omega)]⟩
theorem Laid.step {A Ak : Cell} {lo k : Nat} {f : Nat → Value} {v : Value} (h : Laid A Ak lo k f) (hlo : lo ≤ k) (hk : k < Ak.slots.size) (hv : v = f k) : Laid A (Ak.setSlot k v) lo (k + 1) f := by
  refine ⟨h.1, h.2.1, by simpa [Cell.setSlot] using h.2.2.1, fun i => ?_⟩
  by_cases e : k = i
  · subst e; rw [Cell.slots_setSlot_self v hk, if_pos (by omega), hv]
  · rw [Cell.slots_setSlot_ne v e, h.2.2.2 i]
    by_cases q : lo ≤ i ∧ i < k
    · rw [if_pos q, if_pos (by omega)]
    · rw [if_neg q, if_neg (by omega)]
def U16 : String := "java/lang/StringUTF16"
namespace Cmp5
def yN : MethodName := ⟨"java/lang/StringUTF16", "compress", "([CI[BII)I"⟩
abbrev yB : ByteArray := jdk_52_method_21_code
theorem d0 : decode yB 0 = .ok (.iconst 0, 1) := by decide +kernel
theorem d1 : decode yB 1 = .ok (.istore 5, 2) := by decide +kernel
theorem d3 : decode yB 3 = .ok (.iload 5, 2) := by decide +kernel
theorem d5 : decode yB 5 = .ok (.iload 4, 2) := by decide +kernel
theorem d7 : decode yB 7 = .ok (.if_icmp (.ge) 37, 3) := by decide +kernel
theorem d10 : decode yB 10 = .ok (.aload_n 0, 1) := by decide +kernel
theorem d11 : decode yB 11 = .ok (.iload_n 1, 1) := by decide +kernel
theorem d12 : decode yB 12 = .ok (.caload, 1) := by decide +kernel
theorem d13 : decode yB 13 = .ok (.istore 6, 2) := by decide +kernel
theorem d15 : decode yB 15 = .ok (.iload 6, 2) := by decide +kernel
theorem d17 : decode yB 17 = .ok (.sipush 255, 3) := by decide +kernel
theorem d20 : decode yB 20 = .ok (.if_icmp (.le) 6, 3) := by decide +kernel
theorem d26 : decode yB 26 = .ok (.aload_n 2, 1) := by decide +kernel
theorem d27 : decode yB 27 = .ok (.iload_n 3, 1) := by decide +kernel
theorem d28 : decode yB 28 = .ok (.iload 6, 2) := by decide +kernel
theorem d30 : decode yB 30 = .ok (.i2b, 1) := by decide +kernel
theorem d31 : decode yB 31 = .ok (.bastore, 1) := by decide +kernel
theorem d32 : decode yB 32 = .ok (.iinc 1 1, 3) := by decide +kernel
theorem d35 : decode yB 35 = .ok (.iinc 3 1, 3) := by decide +kernel
theorem d38 : decode yB 38 = .ok (.iinc 5 1, 3) := by decide +kernel
theorem d41 : decode yB 41 = .ok (.goto (-38), 3) := by decide +kernel
theorem d44 : decode yB 44 = .ok (.iload 4, 2) := by decide +kernel
theorem d46 : decode yB 46 = .ok (.ireturn, 1) := by decide +kernel
def site : List Cond := []
def tab : Cond := tabOf yN yB 7 (some .int) site
def P (b : Addr) (A : Cell) (d : Addr) (B : Cell) (o q len : Nat) (args : Array Value) (s : State) : Prop := args = #[.ref b, .int (Int32.ofNat o), .ref d, .int (Int32.ofNat q), .int (Int32.ofNat len)] ∧ Ch b A s ∧ Arr .byte d B s ∧ b ≠ d ∧ o + len ≤ A.slots.size ∧ q + len ≤ B.slots.size ∧ ∀ i, i < len → ¬ 255 < cv A (o + i)
def E (b : Addr) (A : Cell) (d : Addr) (B : Cell) (o q len : Nat) (r : Option Value) (s u : State) : Prop := r = some (.int (Int32.ofNat len)) ∧ ∃ B', Put d B' s u ∧ Laid B B' q (q + len) (fun j => Value.int (lo8 (cv A (o + (j - q)))))
/-- no char of the range above 255: len; the places written hold each char's low byte -/
theorem law (l : Launch) (b : Addr) (A : Cell) (d : Addr) (B : Cell) (o q len : Nat) : Law l yN 5 5 0 0 yB 7 (some .int) site (P b A d B o q len) (E b A d B o q len) (copyLocs d q len) 0 0 := by
  refine Law.of_walk (plainFor_of_name (by decide +kernel)) (by decide +kernel) (by decide +kernel) (by decide) (fun _ _ h => by rw [h.1]; rfl) (fun _ U U' hal hh h => ⟨h.1, h.2.1.mv hal hh, h.2.2.1.mv hal hh, h.2.2.2⟩) (fun r U U' V V' h1 hal h2 h => ⟨h.1, h.2.elim fun B' q => ⟨B', q.1.mv h1 h2, q.2⟩⟩) ?_
  intro p e s m args below meth c s₁ X0 hexec hbytes hml hret hlk hnm hown hh0 W hP
  obtain ⟨rfl, hA, hB, hne, l1, l2, hp⟩ := hP
  have c1 : Steps p.tables e below (s₁.setTop (entryFrame m #[.ref b, .int (Int32.ofNat o), .ref d, .int (Int32.ofNat q), .int (Int32.ofNat len)] 7)) (s₁.setTop (mkF m 0 #[.val (.ref b), .val (.int (Int32.ofNat o)), .val (.ref d), .val (.int (Int32.ofNat q)), .val (.int (Int32.ofNat len)), .unset, .unset] [])) := entry rfl
  have hA0 := hA.1.mv X0.warmed.alike hh0
  have hB0 := hB.mv X0.warmed.alike hh0
  have a31 := hA.1.2.2.2
  have c2 : Steps p.tables e below (s₁.setTop (entryFrame m #[.ref b, .int (Int32.ofNat o), .ref d, .int (Int32.ofNat q), .int (Int32.ofNat len)] 7)) (s₁.setTop (mkF m 3 #[.val (.ref b), .val (.int (Int32.ofNat o)), .val (.ref d), .val (.int (Int32.ofNat q)), .val (.int (Int32.ofNat len)), .val (.int 0), .unset] [])) := c1.trans (by
    refine iconstV X0.here hexec rfl 0 (hb hbytes d0) (by decide) ?_
    refine XS.istore X0.here hexec rfl (hb hbytes d1) rfl rfl ?_
    exact Steps.refl _)
  have loop : ∀ (r i : Nat), i + r = len → ∀ (z : Slot), (z = .unset ∨ ∃ w, z = .val w ∧ w.category = 1) → ∀ (Tl : State) (Bk : Cell), Stand p l e { frames := 0, locals := 0, cells := 0, slots := 0 } s m #[.ref b, .int (Int32.ofNat o), .ref d, .int (Int32.ofNat q), .int (Int32.ofNat len)] below meth c Tl ([] ++ copyLocs d q i) 0 0 → Put d Bk s₁ Tl → Laid B Bk q (q + i) (fun j => Value.int (lo8 (cv A (o + (j - q))))) →
      Steps p.tables e below (s₁.setTop (entryFrame m #[.ref b, .int (Int32.ofNat o), .ref d, .int (Int32.ofNat q), .int (Int32.ofNat len)] 7)) (Tl.setTop (mkF m 3 #[.val (.ref b), .val (.int (Int32.ofNat (o + i))), .val (.ref d), .val (.int (Int32.ofNat (q + i))), .val (.int (Int32.ofNat len)), .val (.int (Int32.ofNat i)), z] [])) → ∃ (T' : State) (B' : Cell) (z' : Slot), Stand p l e { frames := 0, locals := 0, cells := 0, slots := 0 } s m #[.ref b, .int (Int32.ofNat o), .ref d, .int (Int32.ofNat q), .int (Int32.ofNat len)] below meth c T' ([] ++ copyLocs d q len) 0 0 ∧ Put d B' s₁ T' ∧ Laid B B' q (q + len) (fun j => Value.int (lo8 (cv A (o + (j - q))))) ∧
      Steps p.tables e below (s₁.setTop (entryFrame m #[.ref b, .int (Int32.ofNat o), .ref d, .int (Int32.ofNat q), .int (Int32.ofNat len)] 7)) (T'.setTop (mkF m 3 #[.val (.ref b), .val (.int (Int32.ofNat (o + len))), .val (.ref d), .val (.int (Int32.ofNat (q + len))), .val (.int (Int32.ofNat len)), .val (.int (Int32.ofNat len)), z'] [])) := by
    intro r
    induction r with
    | zero =>
      intro i hi z hz Tl Bk Xl pl fl cl
      have hil : i = len := by omega
      rw [hil] at Xl fl cl
      exact ⟨Tl, Bk, z, Xl, pl, fl, cl⟩
    | succ r ih =>
      intro i hi z hz Tl Bk Xl pl fl cl
      have all := X0.warmed.alike.symm.trans Xl.warmed.alike
      have hAl := hA0.keep all (pl.other hne hA0.1)
      have hBk := hB0.like all pl.1 fl.1 fl.2.1 fl.2.2.1
      have hlt : q + i < Bk.slots.size := by rw [fl.2.2.1]; omega
      have c3 : Steps p.tables e below (s₁.setTop (entryFrame m #[.ref b, .int (Int32.ofNat o), .ref d, .int (Int32.ofNat q), .int (Int32.ofNat len)] 7)) (Tl.setTop (mkF m 12 #[.val (.ref b), .val (.int (Int32.ofNat (o + i))), .val (.ref d), .val (.int (Int32.ofNat (q + i))), .val (.int (Int32.ofNat len)), .val (.int (Int32.ofNat i)), z] [.int (Int32.ofNat (o + i)), .ref b])) := cl.trans (by
        refine XS.iload Xl.here hexec rfl (hb hbytes d3) rfl ?_
        refine XS.iload Xl.here hexec rfl (hb hbytes d5) rfl ?_
        refine XS.icmpNo Xl.here hexec rfl (hb hbytes d7) rfl (ii_ge_f (lt32 (by omega) (by omega))) ?_
        refine XS.aloadN Xl.here hexec rfl (hb hbytes d10) rfl rfl ?_
        refine XS.iloadN Xl.here hexec rfl (hb hbytes d11) rfl ?_
        exact Steps.refl _)
      have c4 : Steps p.tables e below (s₁.setTop (entryFrame m #[.ref b, .int (Int32.ofNat o), .ref d, .int (Int32.ofNat q), .int (Int32.ofNat len)] 7)) (Tl.setTop (mkF m 13 #[.val (.ref b), .val (.int (Int32.ofNat (o + i))), .val (.ref d), .val (.int (Int32.ofNat (q + i))), .val (.int (Int32.ofNat len)), .val (.int (Int32.ofNat i)), z] [.int (cv A (o + i))])) := c3.trans (by
        refine Xl.aget hexec hAl rfl (hA.get (i := o + i) (by omega)) rfl rfl (hb hbytes d12) ?_
        exact Steps.refl _)
      have c5 : Steps p.tables e below (s₁.setTop (entryFrame m #[.ref b, .int (Int32.ofNat o), .ref d, .int (Int32.ofNat q), .int (Int32.ofNat len)] 7)) (Tl.setTop (mkF m 15 #[.val (.ref b), .val (.int (Int32.ofNat (o + i))), .val (.ref d), .val (.int (Int32.ofNat (q + i))), .val (.int (Int32.ofNat len)), .val (.int (Int32.ofNat i)), .val (.int (cv A (o + i)))] [])) := c4.trans (by
        refine XS.istoreS Xl.here hexec rfl (hb hbytes d13) rfl rfl hz ?_
        exact Steps.refl _)
      have c6 : Steps p.tables e below (s₁.setTop (entryFrame m #[.ref b, .int (Int32.ofNat o), .ref d, .int (Int32.ofNat q), .int (Int32.ofNat len)] 7)) (Tl.setTop (mkF m 31 #[.val (.ref b), .val (.int (Int32.ofNat (o + i))), .val (.ref d), .val (.int (Int32.ofNat (q + i))), .val (.int (Int32.ofNat len)), .val (.int (Int32.ofNat i)), .val (.int (cv A (o + i)))] [.int (lo8 (cv A (o + i))), .int (Int32.ofNat (q + i)), .ref d])) := c5.trans (by
        refine XS.iload Xl.here hexec rfl (hb hbytes d15) rfl ?_
        refine sipushV Xl.here hexec rfl 255 (hb hbytes d17) (by decide) ?_
        refine XS.icmpYes Xl.here hexec rfl (pc0 := 20) rfl (hb hbytes d20) rfl (ii_le_t (hp i (by omega))) (by decide) rfl ?_
        refine XS.aloadN Xl.here hexec rfl (hb hbytes d26) rfl rfl ?_
        refine XS.iloadN Xl.here hexec rfl (hb hbytes d27) rfl ?_
        refine XS.iload Xl.here hexec rfl (hb hbytes d28) rfl ?_
        refine i2b Xl.here hexec rfl (hb hbytes d30) rfl ?_
        exact Steps.refl _)
      obtain ⟨T7, X7, p7, st7⟩ := Xl.aput hexec hBk rfl hlt rfl (fits_lo8 (cv A (o + i))) (g := (mkF m 31 #[.val (.ref b), .val (.int (Int32.ofNat (o + i))), .val (.ref d), .val (.int (Int32.ofNat (q + i))), .val (.int (Int32.ofNat len)), .val (.int (Int32.ofNat i)), .val (.int (cv A (o + i)))] [.int (lo8 (cv A (o + i))), .int (Int32.ofNat (q + i)), .ref d])) rfl (rest := []) rfl (hb hbytes d31)
      have c8 : Steps p.tables e below (s₁.setTop (entryFrame m #[.ref b, .int (Int32.ofNat o), .ref d, .int (Int32.ofNat q), .int (Int32.ofNat len)] 7)) (T7.setTop (mkF m 32 #[.val (.ref b), .val (.int (Int32.ofNat (o + i))), .val (.ref d), .val (.int (Int32.ofNat (q + i))), .val (.int (Int32.ofNat len)), .val (.int (Int32.ofNat i)), .val (.int (cv A (o + i)))] [])) := c6.trans (st7 _ (Steps.refl _))
      have c9 : Steps p.tables e below (s₁.setTop (entryFrame m #[.ref b, .int (Int32.ofNat o), .ref d, .int (Int32.ofNat q), .int (Int32.ofNat len)] 7)) (T7.setTop (mkF m 3 #[.val (.ref b), .val (.int (Int32.ofNat (o + i) + 1)), .val (.ref d), .val (.int (Int32.ofNat (q + i) + 1)), .val (.int (Int32.ofNat len)), .val (.int (Int32.ofNat i + 1)), .val (.int (cv A (o + i)))] [])) := c8.trans (by
        refine iincV X7.here hexec rfl 1 (hb hbytes d32) (by decide) rfl rfl ?_
        refine iincV X7.here hexec rfl 1 (hb hbytes d35) (by decide) rfl rfl ?_
        refine iincV X7.here hexec rfl 1 (hb hbytes d38) (by decide) rfl rfl ?_
        refine XS.goto X7.here hexec rfl (pc0 := 41) rfl (hb hbytes d41) (by decide) rfl ?_
        exact Steps.refl _)
      have c10 : Steps p.tables e below (s₁.setTop (entryFrame m #[.ref b, .int (Int32.ofNat o), .ref d, .int (Int32.ofNat q), .int (Int32.ofNat len)] 7)) (T7.setTop (mkF m 3 #[.val (.ref b), .val (.int (Int32.ofNat (o + (i + 1)))), .val (.ref d), .val (.int (Int32.ofNat (q + (i + 1)))), .val (.int (Int32.ofNat len)), .val (.int (Int32.ofNat (i + 1))), .val (.int (cv A (o + i)))] [])) := by
        have := c9
        rw [succ32, succ32, succ32] at this
        exact this
      exact ih (i + 1) (by omega) _ (Or.inr ⟨_, rfl, rfl⟩) T7 _ (by rw [copyLocs_step, ← List.append_assoc]; exact X7) (pl.trans p7) (fl.step (by omega) hlt (by simp)) c10
  obtain ⟨T9, B9, z9, X9, p9, f9, g9⟩ := loop len 0 (by omega) .unset (Or.inl rfl) s₁ B (by simpa [copyLocs] using X0) ⟨hB0.1, fun _ _ => rfl, rfl⟩ (Laid.zero _ _ _) c2
  have c11 : Steps p.tables e below (s₁.setTop (entryFrame m #[.ref b, .int (Int32.ofNat o), .ref d, .int (Int32.ofNat q), .int (Int32.ofNat len)] 7)) (T9.setTop (mkF m 46 #[.val (.ref b), .val (.int (Int32.ofNat (o + len))), .val (.ref d), .val (.int (Int32.ofNat (q + len))), .val (.int (Int32.ofNat len)), .val (.int (Int32.ofNat len)), z9] [.int (Int32.ofNat len)])) := g9.trans (by
    refine XS.iload X9.here hexec rfl (hb hbytes d3) rfl ?_
    refine XS.iload X9.here hexec rfl (hb hbytes d5) rfl ?_
    refine XS.icmpYes X9.here hexec rfl (pc0 := 7) rfl (hb hbytes d7) rfl (ii_ge_t (nlt32 (by omega) (Nat.le_refl _))) (by decide) rfl ?_
    refine XS.iload X9.here hexec rfl (hb hbytes d44) rfl ?_
    exact Steps.refl _)
  exact ⟨T9, some (.int (Int32.ofNat len)), _, _, _, X9, by simp, rfl, rfl, (fun h => by cases h), ⟨rfl, B9, p9.from hh0, f9⟩, fun fs hl => c11.trans (X9.ireturnOut hexec hret rfl (Or.inl rfl) (hb hbytes d46) hl)⟩
end Cmp5
namespace Cmp3
def yN : MethodName := ⟨"java/lang/StringUTF16", "compress", "([CII)[B"⟩
abbrev yB : ByteArray := jdk_52_method_16_code
theorem d0 : decode yB 0 = .ok (.iload_n 2, 1) := by decide +kernel
theorem d1 : decode yB 1 = .ok (.newarray .byte, 2) := by decide +kernel
theorem d3 : decode yB 3 = .ok (.astore_n 3, 1) := by decide +kernel
theorem d4 : decode yB 4 = .ok (.aload_n 0, 1) := by decide +kernel
theorem d5 : decode yB 5 = .ok (.iload_n 1, 1) := by decide +kernel
theorem d6 : decode yB 6 = .ok (.aload_n 3, 1) := by decide +kernel
theorem d7 : decode yB 7 = .ok (.iconst 0, 1) := by decide +kernel
theorem d8 : decode yB 8 = .ok (.iload_n 2, 1) := by decide +kernel
theorem d9 : decode yB 9 = .ok (.invokestatic 115, 3) := by decide +kernel
theorem d12 : decode yB 12 = .ok (.istore 4, 2) := by decide +kernel
theorem d14 : decode yB 14 = .ok (.iload 4, 2) := by decide +kernel
theorem d16 : decode yB 16 = .ok (.iload_n 2, 1) := by decide +kernel
theorem d17 : decode yB 17 = .ok (.if_icmp (.eq) 40, 3) := by decide +kernel
theorem d57 : decode yB 57 = .ok (.aload_n 3, 1) := by decide +kernel
theorem d58 : decode yB 58 = .ok (.areturn, 1) := by decide +kernel
def site : List Cond := [.arrayClass .byte, Cmp5.tab] ++ staticW U16 115 Cmp5.yN
def tab : Cond := tabOf yN yB 6 (some (.array .byte)) site
def P (b : Addr) (A : Cell) (o len : Nat) (args : Array Value) (s : State) : Prop := args = #[.ref b, .int (Int32.ofNat o), .int (Int32.ofNat len)] ∧ Ch b A s ∧ o + len ≤ A.slots.size ∧ len ≤ 536870912 ∧ ∀ i, i < len → ¬ 255 < cv A (o + i)
def E (b : Addr) (A : Cell) (o len : Nat) (r : Option Value) (s u : State) : Prop := NewArr .byte "[B" len (fun j => .int (lo8 (cv A (o + j)))) r s u ∧ u.heap.size = s.heap.size + 1
/-- no char of the range above 255: a new byte[] of their low bytes -/
theorem law (l : Launch) (b : Addr) (A : Cell) (o len : Nat) : Law l yN 3 3 1 18 yB 6 (some (.array .byte)) site (P b A o len) (E b A o len) [] 1 len := by
  refine Law.of_walk (plainFor_of_name (by decide +kernel)) (by decide +kernel) (by decide +kernel) (by decide) (fun _ _ h => by rw [h.1]; rfl) (fun _ U U' hal hh h => ⟨h.1, h.2.1.mv hal hh, h.2.2⟩) (fun r U U' V V' h1 hal h2 h => ⟨NewArr.mv r U U' V V' h1 hal h2 h.1, by rw [h1, h2]; exact h.2⟩) ?_
  intro p e s m args below meth c s₁ X0 hexec hbytes hml hret hlk hnm hown hh0 W hP
  obtain ⟨rfl, hA, l1, l2, hp⟩ := hP
  have a31 := hA.1.2.2.2
  have c1 : Steps p.tables e below (s₁.setTop (entryFrame m #[.ref b, .int (Int32.ofNat o), .int (Int32.ofNat len)] 6)) (s₁.setTop (mkF m 0 #[.val (.ref b), .val (.int (Int32.ofNat o)), .val (.int (Int32.ofNat len)), .unset, .unset, .unset] [])) := entry rfl
  have c2 : Steps p.tables e below (s₁.setTop (entryFrame m #[.ref b, .int (Int32.ofNat o), .int (Int32.ofNat len)] 6)) (s₁.setTop (mkF m 1 #[.val (.ref b), .val (.int (Int32.ofNat o)), .val (.int (Int32.ofNat len)), .unset, .unset, .unset] [.int (Int32.ofNat len)])) := c1.trans (by
    refine XS.iloadN X0.here hexec rfl (hb hbytes d0) rfl ?_
    exact Steps.refl _)
  obtain ⟨T3, B3, X3, ba3, bs3, bv3, bh3, bf3, st3⟩ := X0.anew hexec (atype := .byte) (wk W (.arrayClass .byte)) rfl (by show len * 1 ≤ _; omega) (by omega) (g := (mkF m 1 #[.val (.ref b), .val (.int (Int32.ofNat o)), .val (.int (Int32.ofNat len)), .unset, .unset, .unset] [.int (Int32.ofNat len)])) rfl (hb hbytes d1) (rest := []) rfl (Nat.le_refl _) (by show 0 + len ≤ len; omega)
  rw [hh0] at ba3 st3
  have kp3 : XT.Kept s T3 := (XT.Kept.of_eq hh0).push bh3
  have hA3 := hA.keep X3.warmed.alike (kp3 _ _ hA.1.1)
  have hne : b ≠ s.heap.size := hA.1.ne
  have c4 : Steps p.tables e below (s₁.setTop (entryFrame m #[.ref b, .int (Int32.ofNat o), .int (Int32.ofNat len)] 6)) (T3.setTop (mkF m 3 #[.val (.ref b), .val (.int (Int32.ofNat o)), .val (.int (Int32.ofNat len)), .unset, .unset, .unset] [.ref s.heap.size])) := c2.trans (st3 _ (Steps.refl _))
  have c5 : Steps p.tables e below (s₁.setTop (entryFrame m #[.ref b, .int (Int32.ofNat o), .int (Int32.ofNat len)] 6)) (T3.setTop (mkF m 9 #[.val (.ref b), .val (.int (Int32.ofNat o)), .val (.int (Int32.ofNat len)), .val (.ref s.heap.size), .unset, .unset] [.int (Int32.ofNat len), .int 0, .ref s.heap.size, .int (Int32.ofNat o), .ref b])) := c4.trans (by
    refine XS.astoreN X3.here hexec rfl (hb hbytes d3) rfl rfl rfl ?_
    refine XS.aloadN X3.here hexec rfl (hb hbytes d4) rfl rfl ?_
    refine XS.iloadN X3.here hexec rfl (hb hbytes d5) rfl ?_
    refine XS.aloadN X3.here hexec rfl (hb hbytes d6) rfl rfl ?_
    refine iconstV X3.here hexec rfl 0 (hb hbytes d7) (by decide) ?_
    refine XS.iloadN X3.here hexec rfl (hb hbytes d8) rfl ?_
    exact Steps.refl _)
  obtain ⟨v6, T6, X6, E6, g6⟩ := X3.callS hexec (Cmp5.law l b A s.heap.size B3 o 0 len) hown (wks W (staticW U16 115 Cmp5.yN)) (wk W Cmp5.tab) (W := 0) (Nat.le_of_ble_eq_true rfl) (Nat.le_of_ble_eq_true rfl) (Nat.le_refl _) (by show 0 + len + 0 ≤ len; omega) (g := (mkF m 9 #[.val (.ref b), .val (.int (Int32.ofNat o)), .val (.int (Int32.ofNat len)), .val (.ref s.heap.size), .unset, .unset] [.int (Int32.ofNat len), .int (Int32.ofNat 0), .ref s.heap.size, .int (Int32.ofNat o), .ref b])) rfl (by rw [hml]; rfl) c5 (argsL := [.ref b, .int (Int32.ofNat o), .ref s.heap.size, .int (Int32.ofNat 0), .int (Int32.ofNat len)]) (rest := []) rfl rfl (by show 2 * 0 + 0 ≤ _; decide) (hb hbytes d9) (⟨rfl, hA3, ba3, hne, l1, by rw [bs3]; simp, hp⟩)
  obtain ⟨rfl, B6, p6, f6⟩ := E6
  have c7 : Steps p.tables e below (s₁.setTop (entryFrame m #[.ref b, .int (Int32.ofNat o), .int (Int32.ofNat len)] 6)) (T6.setTop (mkF m 12 #[.val (.ref b), .val (.int (Int32.ofNat o)), .val (.int (Int32.ofNat len)), .val (.ref s.heap.size), .unset, .unset] [.int (Int32.ofNat len)])) := g6
  have c8 : Steps p.tables e below (s₁.setTop (entryFrame m #[.ref b, .int (Int32.ofNat o), .int (Int32.ofNat len)] 6)) (T6.setTop (mkF m 58 #[.val (.ref b), .val (.int (Int32.ofNat o)), .val (.int (Int32.ofNat len)), .val (.ref s.heap.size), .val (.int (Int32.ofNat len)), .unset] [.ref s.heap.size])) := c7.trans (by
    refine XS.istore X6.here hexec rfl (hb hbytes d12) rfl rfl ?_
    refine XS.iload X6.here hexec rfl (hb hbytes d14) rfl ?_
    refine XS.iloadN X6.here hexec rfl (hb hbytes d16) rfl ?_
    refine XS.icmpYes X6.here hexec rfl (pc0 := 17) rfl (hb hbytes d17) rfl (ii_eq_t rfl) (by decide) rfl ?_
    refine XS.aloadN X6.here hexec rfl (hb hbytes d57) rfl rfl ?_
    exact Steps.refl _)
  have X8 := X6.wide (L' := []) (cells' := 1) (slots' := len) (fun x hx hlt => by
    simp only [List.nil_append, copyLocs, List.mem_map, List.mem_range] at hx
    obtain ⟨i, -, rfl⟩ := hx
    exact absurd hlt (Nat.lt_irrefl _)) (Nat.le_refl _) (by omega)
  exact ⟨T6, some (.ref s.heap.size), _, _, _, X8, rfl, rfl, rfl, (fun h => by cases h), ⟨⟨rfl, B6, ba3.like (X3.warmed.alike.symm.trans X6.warmed.alike) p6.1 f6.1 f6.2.1 f6.2.2.1, f6.2.1.trans bv3, by rw [X6.warmed.alike.findClass, f6.1]; exact bf3, by rw [f6.2.2.1, bs3]; simp, fun j hj => by rw [f6.2.2.2 j, if_pos (by omega)]; rfl, kp3.put p6 (Nat.le_refl _)⟩, by rw [p6.2.2, bh3, hh0]; simp⟩, fun fs hl => c8.trans (X8.areturnOut hexec rfl hret rfl (hb hbytes d58) hl)⟩
end Cmp3
namespace CodL
def yN : MethodName := ⟨"java/lang/StringUTF16", "coderFromArrayLen", "([BI)B"⟩
abbrev yB : ByteArray := jdk_52_method_15_code
theorem d0 : decode yB 0 = .ok (.iload_n 1, 1) := by decide +kernel
theorem d1 : decode yB 1 = .ok (.aload_n 0, 1) := by decide +kernel
theorem d2 : decode yB 2 = .ok (.arraylength, 1) := by decide +kernel
theorem d3 : decode yB 3 = .ok (.isub, 1) := by decide +kernel
theorem d4 : decode yB 4 = .ok (.bipush 31, 2) := by decide +kernel
theorem d6 : decode yB 6 = .ok (.iushr, 1) := by decide +kernel
theorem d7 : decode yB 7 = .ok (.i2b, 1) := by decide +kernel
theorem d8 : decode yB 8 = .ok (.ireturn, 1) := by decide +kernel
def site : List Cond := []
def tab : Cond := tabOf yN yB 2 (some .byte) site
def P (d : Addr) (B : Cell) (args : Array Value) (s : State) : Prop := args = #[.ref d, .int (Int32.ofNat B.slots.size)] ∧ Arr .byte d B s
def E (r : Option Value) (s u : State) : Prop := XT.PureE (some (.int 0)) r s u
/-- an array as long as the number of chars: LATIN1 -/
theorem law (l : Launch) (d : Addr) (B : Cell) : Law l yN 2 2 0 0 yB 2 (some .byte) site (P d B) E [] 0 0 := by
  refine Law.of_walk (plainFor_of_name (by decide +kernel)) (by decide +kernel) (by decide +kernel) (by decide) (fun _ _ h => by rw [h.1]; rfl) (fun _ U U' hal hh h => ⟨h.1, h.2.mv hal hh⟩) (fun r U U' V V' h1 hal h2 h => XT.PureE.mv r U U' V V' h1 hal h2 h) ?_
  intro p e s m args below meth c s₁ X0 hexec hbytes hml hret hlk hnm hown hh0 W hP
  obtain ⟨rfl, hB⟩ := hP
  have hB0 := hB.mv X0.warmed.alike hh0
  have c1 : Steps p.tables e below (s₁.setTop (entryFrame m #[.ref d, .int (Int32.ofNat B.slots.size)] 2)) (s₁.setTop (mkF m 0 #[.val (.ref d), .val (.int (Int32.ofNat B.slots.size))] [])) := entry rfl
  have c2 : Steps p.tables e below (s₁.setTop (entryFrame m #[.ref d, .int (Int32.ofNat B.slots.size)] 2)) (s₁.setTop (mkF m 2 #[.val (.ref d), .val (.int (Int32.ofNat B.slots.size))] [.ref d, .int (Int32.ofNat B.slots.size)])) := c1.trans (by
    refine XS.iloadN X0.here hexec rfl (hb hbytes d0) rfl ?_
    refine XS.aloadN X0.here hexec rfl (hb hbytes d1) rfl rfl ?_
    exact Steps.refl _)
  have c3 : Steps p.tables e below (s₁.setTop (entryFrame m #[.ref d, .int (Int32.ofNat B.slots.size)] 2)) (s₁.setTop (mkF m 8 #[.val (.ref d), .val (.int (Int32.ofNat B.slots.size))] [.int (lo8 (ushr (Int32.ofNat B.slots.size - Int32.ofNat B.slots.size) 31))])) := c2.trans (by
    refine X0.alen hexec hB0 rfl rfl (hb hbytes d2) ?_
    refine XS.isub X0.here hexec rfl (hb hbytes d3) rfl ?_
    refine bipushV X0.here hexec rfl 31 (hb hbytes d4) (by decide) ?_
    refine iushr X0.here hexec rfl (hb hbytes d6) rfl ?_
    refine i2b X0.here hexec rfl (hb hbytes d7) rfl ?_
    exact Steps.refl _)
  have e0 : lo8 (ushr (Int32.ofNat B.slots.size - Int32.ofNat B.slots.size) 31) = 0 := by rw [Int32.sub_self]; decide
  rw [e0] at c3
  exact ⟨s₁, some (.int 0), _, _, _, X0, rfl, rfl, rfl, (fun h => by cases h), ⟨rfl, hh0⟩, fun fs hl => c3.trans (X0.ireturnOut hexec hret rfl (Or.inr (Or.inr (Or.inl rfl))) (hb hbytes d8) hl)⟩
end CodL
/-- the String at a is Latin-1 over a new byte[] (the heap's one new cell): the low bytes of the len chars of A from o on; every cell but a is kept -/
def Got (a : Addr) (D : Cell) (fV fC : Field) (A : Cell) (o len : Nat) (r : Option Value) (s u : State) : Prop := r = none ∧ ∃ D' V : Cell, Blank "java/lang/String" a D' u ∧ Same D D' [fV.slot, fC.slot] ∧ D'.slots[fV.slot]? = some (.ref s.heap.size) ∧ D'.slots[fC.slot]? = some (.int 0) ∧ Arr .byte s.heap.size V u ∧ V.vm = .none ∧ u.vm.findClass "[B" = some V.cls ∧ V.slots.size = len ∧ (∀ j, j < len → V.slots[j]? = some (.int (lo8 (cv A (o + j))))) ∧ (∀ (y : Addr) (c : Cell), y ≠ a → s.heap[y]? = some c → u.heap[y]? = some c) ∧ u.heap.size = s.heap.size + 1
theorem Got.mv {a : Addr} {D A : Cell} {fV fC : Field} {o len : Nat} : ∀ r (U U' V V' : State), U'.heap = U.heap → V.vm.Alike V'.vm → V'.heap = V.heap → Got a D fV fC A o len r U V → Got a D fV fC A o len r U' V' :=
  fun r U U' V V' h1 hal h2 ⟨e0, D', X, a1, a2, a3, a4, a5, a6, a7, a8, a9, a10, a11⟩ => ⟨e0, D', X, a1.mv hal h2, a2, by rw [h1]; exact a3, a4, by rw [h1]; exact a5.mv hal h2, a6, by rw [hal.findClass]; exact a7, a8, a9, by rw [h1, h2]; exact a10, by rw [h1, h2]; exact a11⟩
namespace New4
def yN : MethodName := ⟨"java/lang/String", "<init>", "([CIILjava/lang/Void;)V"⟩
abbrev yB : ByteArray := jdk_42_method_149_code
theorem d0 : decode yB 0 = .ok (.aload_n 0, 1) := by decide +kernel
theorem d1 : decode yB 1 = .ok (.invokespecial 1, 3) := by decide +kernel
theorem d4 : decode yB 4 = .ok (.iload_n 3, 1) := by decide +kernel
theorem d5 : decode yB 5 = .ok (.ifCond (.ne) 22, 3) := by decide +kernel
theorem d27 : decode yB 27 = .ok (.getstatic 38, 3) := by decide +kernel
theorem d30 : decode yB 30 = .ok (.ifCond (.eq) 28, 3) := by decide +kernel
theorem d33 : decode yB 33 = .ok (.aload_n 1, 1) := by decide +kernel
theorem d34 : decode yB 34 = .ok (.iload_n 2, 1) := by decide +kernel
theorem d35 : decode yB 35 = .ok (.iload_n 3, 1) := by decide +kernel
theorem d36 : decode yB 36 = .ok (.invokestatic 177, 3) := by decide +kernel
theorem d39 : decode yB 39 = .ok (.astore 5, 2) := by decide +kernel
theorem d41 : decode yB 41 = .ok (.aload_n 0, 1) := by decide +kernel
theorem d42 : decode yB 42 = .ok (.aload 5, 2) := by decide +kernel
theorem d44 : decode yB 44 = .ok (.iload_n 3, 1) := by decide +kernel
theorem d45 : decode yB 45 = .ok (.invokestatic 47, 3) := by decide +kernel
theorem d48 : decode yB 48 = .ok (.putfield 15, 3) := by decide +kernel
theorem d51 : decode yB 51 = .ok (.aload_n 0, 1) := by decide +kernel
theorem d52 : decode yB 52 = .ok (.aload 5, 2) := by decide +kernel
theorem d54 : decode yB 54 = .ok (.putfield 9, 3) := by decide +kernel
theorem d57 : decode yB 57 = .ok (.return_, 1) := by decide +kernel
def site : List Cond := [.fieldLink "java/lang/String" 38 "java/lang/String" "COMPACT_STRINGS" "Z", Cmp3.tab, CodL.tab, .laysFinal "java/lang/String" "java/lang/String" "value" "[B", .fieldLink "java/lang/String" 9 "java/lang/String" "value" "[B", .laysFinal "java/lang/String" "java/lang/String" "coder" "B", .fieldLink "java/lang/String" 15 "java/lang/String" "coder" "B"] ++ objW "java/lang/String" 1 ++ staticW "java/lang/String" 177 Cmp3.yN ++ staticW "java/lang/String" 47 CodL.yN
def tab : Cond := tabOf yN yB 6 none site
def P (a : Addr) (D : Cell) (fV fC : Field) (b : Addr) (A : Cell) (z : Int32) (o len : Nat) (args : Array Value) (s : State) : Prop := args = #[.ref a, .ref b, .int (Int32.ofNat o), .int (Int32.ofNat len), .null] ∧ Blank "java/lang/String" a D s ∧ Found "java/lang/String" "value" "[B" fV s ∧ Found "java/lang/String" "coder" "B" fC s ∧ Ch b A s ∧ StaticIs s "java/lang/String" "COMPACT_STRINGS" "Z" (.int z) ∧ ¬ z = 0 ∧ 0 < len ∧ o + len ≤ A.slots.size ∧ len ≤ 536870912 ∧ ∀ i, i < len → ¬ 255 < cv A (o + i)
def E (a : Addr) (D : Cell) (fV fC : Field) (A : Cell) (o len : Nat) (r : Option Value) (s u : State) : Prop := Got a D fV fC A o len r s u
/-- len > 0, no char of the range above 255: a Latin-1 String of their low bytes -/
theorem law (l : Launch) (a : Addr) (D : Cell) (fV fC : Field) (b : Addr) (A : Cell) (z : Int32) (o len : Nat) : Law l yN 5 4 2 35 yB 6 none site (P a D fV fC b A z o len) (E a D fV fC A o len) [⟨a, fC.slot⟩, ⟨a, fV.slot⟩] 1 len := by
  refine Law.of_walk (plainFor_of_name (by decide +kernel)) (by decide +kernel) (by decide +kernel) (by decide) (fun _ _ h => by rw [h.1]; rfl) (fun _ U U' hal hh h => ⟨h.1, h.2.1.mv hal hh, h.2.2.1.al hal, h.2.2.2.1.al hal, h.2.2.2.2.1.mv hal hh, h.2.2.2.2.2.1.there hal hh, h.2.2.2.2.2.2⟩) (fun r U U' V V' h1 hal h2 h => Got.mv r U U' V V' h1 hal h2 h) ?_
  intro p e s m args below meth c s₁ X0 hexec hbytes hml hret hlk hnm hown hh0 W hP
  obtain ⟨rfl, hB, f1, f2, hA, s1, hz, l0, l1, l2, hp⟩ := hP
  have a31 := hA.1.2.2.2
  have c1 : Steps p.tables e below (s₁.setTop (entryFrame m #[.ref a, .ref b, .int (Int32.ofNat o), .int (Int32.ofNat len), .null] 6)) (s₁.setTop (mkF m 0 #[.val (.ref a), .val (.ref b), .val (.int (Int32.ofNat o)), .val (.int (Int32.ofNat len)), .val .null, .unset] [])) := entry rfl
  have c2 : Steps p.tables e below (s₁.setTop (entryFrame m #[.ref a, .ref b, .int (Int32.ofNat o), .int (Int32.ofNat len), .null] 6)) (s₁.setTop (mkF m 1 #[.val (.ref a), .val (.ref b), .val (.int (Int32.ofNat o)), .val (.int (Int32.ofNat len)), .val .null, .unset] [.ref a])) := c1.trans (by
    refine XS.aloadN X0.here hexec rfl (hb hbytes d0) rfl rfl ?_
    exact Steps.refl _)
  obtain ⟨T3, X3, q3, st3⟩ := X0.oinit hexec hown (wks W (objW "java/lang/String" 1)) (g := (mkF m 1 #[.val (.ref a), .val (.ref b), .val (.int (Int32.ofNat o)), .val (.int (Int32.ofNat len)), .val .null, .unset] [.ref a])) rfl (by rw [hml]; rfl) (rest := []) rfl (hb hbytes d1) (W := 0) (by show 2 * 0 + 0 ≤ _; decide) (Nat.le_of_ble_eq_true rfl) (Nat.le_of_ble_eq_true rfl)
  have hh3 := q3.trans hh0
  have c4 : Steps p.tables e below (s₁.setTop (entryFrame m #[.ref a, .ref b, .int (Int32.ofNat o), .int (Int32.ofNat len), .null] 6)) (T3.setTop (mkF m 27 #[.val (.ref a), .val (.ref b), .val (.int (Int32.ofNat o)), .val (.int (Int32.ofNat len)), .val .null, .unset] [])) := (c2.trans (st3 _ (Steps.refl _))).trans (by
    refine XS.iloadN X3.here hexec rfl (hb hbytes d4) rfl ?_
    refine XS.ifYes X3.here hexec rfl (pc0 := 5) rfl (hb hbytes d5) rfl (i0_ne_t (nz32 (by omega) l0)) (by decide) rfl ?_
    exact Steps.refl _)
  obtain ⟨T5, X5, q5, st5⟩ := X3.sget hexec hown (wk W (.fieldLink "java/lang/String" 38 "java/lang/String" "COMPACT_STRINGS" "Z")) s1 (fun _ _ h => by rw [hh3]; exact h) (g := (mkF m 27 #[.val (.ref a), .val (.ref b), .val (.int (Int32.ofNat o)), .val (.int (Int32.ofNat len)), .val .null, .unset] [])) rfl (hb hbytes d27)
  have hh5 := q5.trans hh3
  have c6 : Steps p.tables e below (s₁.setTop (entryFrame m #[.ref a, .ref b, .int (Int32.ofNat o), .int (Int32.ofNat len), .null] 6)) (T5.setTop (mkF m 30 #[.val (.ref a), .val (.ref b), .val (.int (Int32.ofNat o)), .val (.int (Int32.ofNat len)), .val .null, .unset] [.int z])) := c4.trans (st5 _ (Steps.refl _))
  have c7 : Steps p.tables e below (s₁.setTop (entryFrame m #[.ref a, .ref b, .int (Int32.ofNat o), .int (Int32.ofNat len), .null] 6)) (T5.setTop (mkF m 36 #[.val (.ref a), .val (.ref b), .val (.int (Int32.ofNat o)), .val (.int (Int32.ofNat len)), .val .null, .unset] [.int (Int32.ofNat len), .int (Int32.ofNat o), .ref b])) := c6.trans (by
    refine XS.ifNo X5.here hexec rfl (hb hbytes d30) rfl (i0_eq_f hz) ?_
    refine XS.aloadN X5.here hexec rfl (hb hbytes d33) rfl rfl ?_
    refine XS.iloadN X5.here hexec rfl (hb hbytes d34) rfl ?_
    refine XS.iloadN X5.here hexec rfl (hb hbytes d35) rfl ?_
    exact Steps.refl _)
  obtain ⟨v8, T8, X8, E8, g8⟩ := X5.callS hexec (Cmp3.law l b A o len) hown (wks W (staticW "java/lang/String" 177 Cmp3.yN)) (wk W Cmp3.tab) (W := 0) (Nat.le_of_ble_eq_true rfl) (Nat.le_of_ble_eq_true rfl) (Nat.le_refl _) (by show 0 + len ≤ len; omega) (g := (mkF m 36 #[.val (.ref a), .val (.ref b), .val (.int (Int32.ofNat o)), .val (.int (Int32.ofNat len)), .val .null, .unset] [.int (Int32.ofNat len), .int (Int32.ofNat o), .ref b])) rfl (by rw [hml]; rfl) c7 (argsL := [.ref b, .int (Int32.ofNat o), .int (Int32.ofNat len)]) (rest := []) rfl rfl (by show 2 * 0 + 0 ≤ _; decide) (hb hbytes d36) (⟨rfl, hA.mv X5.warmed.alike hh5, l1, l2, hp⟩)
  obtain ⟨e8, z8⟩ := E8
  obtain ⟨rfl, N, n1, n2, n3, n4, n5, n6⟩ := NewArr.mv _ T5 s _ _ hh5.symm (Vm.Alike.refl _) rfl e8
  rw [hh5] at z8
  have hB1 := hB.keep X8.warmed.alike (n6 _ _ hB.1)
  have hne : s.heap.size ≠ a := (Nat.ne_of_lt (Array.getElem?_eq_some_iff.mp hB.1).1).symm
  have c9 : Steps p.tables e below (s₁.setTop (entryFrame m #[.ref a, .ref b, .int (Int32.ofNat o), .int (Int32.ofNat len), .null] 6)) (T8.setTop (mkF m 39 #[.val (.ref a), .val (.ref b), .val (.int (Int32.ofNat o)), .val (.int (Int32.ofNat len)), .val .null, .unset] [.ref s.heap.size])) := g8
  have c10 : Steps p.tables e below (s₁.setTop (entryFrame m #[.ref a, .ref b, .int (Int32.ofNat o), .int (Int32.ofNat len), .null] 6)) (T8.setTop (mkF m 45 #[.val (.ref a), .val (.ref b), .val (.int (Int32.ofNat o)), .val (.int (Int32.ofNat len)), .val .null, .val (.ref s.heap.size)] [.int (Int32.ofNat N.slots.size), .ref s.heap.size, .ref a])) := by
    have hc : Steps p.tables e below (s₁.setTop (entryFrame m #[.ref a, .ref b, .int (Int32.ofNat o), .int (Int32.ofNat len), .null] 6)) (T8.setTop (mkF m 45 #[.val (.ref a), .val (.ref b), .val (.int (Int32.ofNat o)), .val (.int (Int32.ofNat len)), .val .null, .val (.ref s.heap.size)] [.int (Int32.ofNat len), .ref s.heap.size, .ref a])) := c9.trans (by
      refine XS.astore X8.here hexec rfl (hb hbytes d39) rfl rfl rfl ?_
      refine XS.aloadN X8.here hexec rfl (hb hbytes d41) rfl rfl ?_
      refine XS.aload X8.here hexec rfl (hb hbytes d42) rfl rfl ?_
      refine XS.iloadN X8.here hexec rfl (hb hbytes d44) rfl ?_
      exact Steps.refl _)
    rw [n4]; exact hc
  obtain ⟨v11, T11, X11, E11, g11⟩ := X8.callS hexec (CodL.law l s.heap.size N) hown (wks W (staticW "java/lang/String" 47 CodL.yN)) (wk W CodL.tab) (W := 1) (Nat.le_of_ble_eq_true rfl) (Nat.le_of_ble_eq_true rfl) (Nat.le_refl _) (by show 0 + len + 0 ≤ len; omega) (g := (mkF m 45 #[.val (.ref a), .val (.ref b), .val (.int (Int32.ofNat o)), .val (.int (Int32.ofNat len)), .val .null, .val (.ref s.heap.size)] [.int (Int32.ofNat N.slots.size), .ref s.heap.size, .ref a])) rfl (by rw [hml]; rfl) c10 (argsL := [.ref s.heap.size, .int (Int32.ofNat N.slots.size)]) (rest := [.ref a]) rfl rfl (by show 2 * 0 + (1 + 0) ≤ _; decide) (hb hbytes d45) (⟨rfl, n1⟩)
  obtain ⟨rfl, q11⟩ := E11
  have hB11 := hB1.mv (X8.warmed.alike.symm.trans X11.warmed.alike) q11
  have c12 : Steps p.tables e below (s₁.setTop (entryFrame m #[.ref a, .ref b, .int (Int32.ofNat o), .int (Int32.ofNat len), .null] 6)) (T11.setTop (mkF m 48 #[.val (.ref a), .val (.ref b), .val (.int (Int32.ofNat o)), .val (.int (Int32.ofNat len)), .val .null, .val (.ref s.heap.size)] [.int 0, .ref a])) := g11
  obtain ⟨T13, X13, p13, bl13, sl13, st13⟩ := X11.finit hexec hown (wk W (.fieldLink "java/lang/String" 15 "java/lang/String" "coder" "B")) (Or.inr ⟨_, (wk W (.laysFinal "java/lang/String" "java/lang/String" "coder" "B"))⟩) (Or.inl ⟨rfl, hnm⟩) f2 (Or.inl rfl) hB11 (t := .byte) (by decide +kernel) rfl (g := (mkF m 48 #[.val (.ref a), .val (.ref b), .val (.int (Int32.ofNat o)), .val (.int (Int32.ofNat len)), .val .null, .val (.ref s.heap.size)] [.int 0, .ref a])) rfl (rest := []) rfl (hb hbytes d48)
  have c14 : Steps p.tables e below (s₁.setTop (entryFrame m #[.ref a, .ref b, .int (Int32.ofNat o), .int (Int32.ofNat len), .null] 6)) (T13.setTop (mkF m 54 #[.val (.ref a), .val (.ref b), .val (.int (Int32.ofNat o)), .val (.int (Int32.ofNat len)), .val .null, .val (.ref s.heap.size)] [.ref s.heap.size, .ref a])) := (c12.trans (st13 _ (Steps.refl _))).trans (by
    refine XS.aloadN X13.here hexec rfl (hb hbytes d51) rfl rfl ?_
    refine XS.aload X13.here hexec rfl (hb hbytes d52) rfl rfl ?_
    exact Steps.refl _)
  obtain ⟨T15, X15, p15, bl15, sl15, st15⟩ := X13.finit hexec hown (wk W (.fieldLink "java/lang/String" 9 "java/lang/String" "value" "[B")) (Or.inr ⟨_, (wk W (.laysFinal "java/lang/String" "java/lang/String" "value" "[B"))⟩) (Or.inl ⟨rfl, hnm⟩) f1 (Or.inl rfl) bl13 (t := (.array .byte)) (by decide +kernel) rfl (g := (mkF m 54 #[.val (.ref a), .val (.ref b), .val (.int (Int32.ofNat o)), .val (.int (Int32.ofNat len)), .val .null, .val (.ref s.heap.size)] [.ref s.heap.size, .ref a])) rfl (rest := []) rfl (hb hbytes d54)
  have c16 : Steps p.tables e below (s₁.setTop (entryFrame m #[.ref a, .ref b, .int (Int32.ofNat o), .int (Int32.ofNat len), .null] 6)) (T15.setTop (mkF m 57 #[.val (.ref a), .val (.ref b), .val (.int (Int32.ofNat o)), .val (.int (Int32.ofNat len)), .val .null, .val (.ref s.heap.size)] [])) := c14.trans (st15 _ (Steps.refl _))
  have ap := apart (Or.inr ⟨_, (wk W (.laysFinal "java/lang/String" "java/lang/String" "value" "[B"))⟩) (Or.inr ⟨_, (wk W (.laysFinal "java/lang/String" "java/lang/String" "coder" "B"))⟩) f1 f2 (t₁ := .array .byte) (t₂ := .byte) (by decide +kernel) (by decide +kernel) (by decide)
  have al := X8.warmed.alike.symm.trans X15.warmed.alike
  have n7 : T11.heap[s.heap.size]? = some N := by rw [q11]; exact n1.1
  exact ⟨T15, none, _, _, _, X15, by simp, rfl, by omega, (fun _ => rfl), ⟨rfl, _, N, bl15, ((Same.refl D _).set _ (by simp)).set _ (by simp), sl15, (Cell.slots_setSlot_ne _ ap).trans sl13, n1.keep al (p15.other hne (p13.other hne n7)), n2, by rw [al.findClass]; exact n3, n4, n5, fun y c h1 h2 => p15.other h1 (p13.other h1 (by rw [q11]; exact n6 y c h2)), by rw [p15.2.2, p13.2.2, q11]; exact z8⟩, fun fs hl => c16.trans (X15.returnOut hexec hret (hb hbytes d57) hl)⟩
end New4
namespace New1
def yN : MethodName := ⟨"java/lang/String", "<init>", "([C)V"⟩
abbrev yB : ByteArray := jdk_42_method_3_code
theorem d0 : decode yB 0 = .ok (.aload_n 0, 1) := by decide +kernel
theorem d1 : decode yB 1 = .ok (.aload_n 1, 1) := by decide +kernel
theorem d2 : decode yB 2 = .ok (.iconst 0, 1) := by decide +kernel
theorem d3 : decode yB 3 = .ok (.aload_n 1, 1) := by decide +kernel
theorem d4 : decode yB 4 = .ok (.arraylength, 1) := by decide +kernel
theorem d5 : decode yB 5 = .ok (.aconst_null, 1) := by decide +kernel
theorem d6 : decode yB 6 = .ok (.invokespecial 27, 3) := by decide +kernel
theorem d9 : decode yB 9 = .ok (.return_, 1) := by decide +kernel
def site : List Cond := [New4.tab] ++ initW "java/lang/String" 27 New4.yN
def tab : Cond := tabOf yN yB 2 none site
def P (a : Addr) (D : Cell) (fV fC : Field) (b : Addr) (A : Cell) (z : Int32) (args : Array Value) (s : State) : Prop := args = #[.ref a, .ref b] ∧ Blank "java/lang/String" a D s ∧ Found "java/lang/String" "value" "[B" fV s ∧ Found "java/lang/String" "coder" "B" fC s ∧ Ch b A s ∧ StaticIs s "java/lang/String" "COMPACT_STRINGS" "Z" (.int z) ∧ ¬ z = 0 ∧ 0 < A.slots.size ∧ A.slots.size ≤ 536870912 ∧ ∀ i, i < A.slots.size → ¬ 255 < cv A i
def E (a : Addr) (D : Cell) (fV fC : Field) (A : Cell) (r : Option Value) (s u : State) : Prop := Got a D fV fC A 0 A.slots.size r s u
/-- new String(chars), not empty, no char above 255: a Latin-1 String of their low bytes -/
theorem law (l : Launch) (a : Addr) (D : Cell) (fV fC : Field) (b : Addr) (A : Cell) (z : Int32) : Law l yN 2 1 3 52 yB 2 none site (P a D fV fC b A z) (E a D fV fC A) [⟨a, fC.slot⟩, ⟨a, fV.slot⟩] 1 A.slots.size := by
  refine Law.of_walk (plainFor_of_name (by decide +kernel)) (by decide +kernel) (by decide +kernel) (by decide) (fun _ _ h => by rw [h.1]; rfl) (fun _ U U' hal hh h => ⟨h.1, h.2.1.mv hal hh, h.2.2.1.al hal, h.2.2.2.1.al hal, h.2.2.2.2.1.mv hal hh, h.2.2.2.2.2.1.there hal hh, h.2.2.2.2.2.2⟩) (fun r U U' V V' h1 hal h2 h => Got.mv r U U' V V' h1 hal h2 h) ?_
  intro p e s m args below meth c s₁ X0 hexec hbytes hml hret hlk hnm hown hh0 W hP
  obtain ⟨rfl, hB, f1, f2, hA, s1, hz, l0, l2, hp⟩ := hP
  have c1 : Steps p.tables e below (s₁.setTop (entryFrame m #[.ref a, .ref b] 2)) (s₁.setTop (mkF m 0 #[.val (.ref a), .val (.ref b)] [])) := entry rfl
  have c2 : Steps p.tables e below (s₁.setTop (entryFrame m #[.ref a, .ref b] 2)) (s₁.setTop (mkF m 6 #[.val (.ref a), .val (.ref b)] [.null, .int (Int32.ofNat A.slots.size), .int 0, .ref b, .ref a])) := c1.trans (by
    refine XS.aloadN X0.here hexec rfl (hb hbytes d0) rfl rfl ?_
    refine XS.aloadN X0.here hexec rfl (hb hbytes d1) rfl rfl ?_
    refine iconstV X0.here hexec rfl 0 (hb hbytes d2) (by decide) ?_
    refine XS.aloadN X0.here hexec rfl (hb hbytes d3) rfl rfl ?_
    refine X0.alen hexec (hA.1.mv X0.warmed.alike hh0) rfl rfl (hb hbytes d4) ?_
    refine XS.aconstNull X0.here hexec rfl (hb hbytes d5) ?_
    exact Steps.refl _)
  obtain ⟨v3, T3, X3, E3, g3⟩ := X0.callN hexec (New4.law l a D fV fC b A z 0 A.slots.size) rfl hown (wks W (initW "java/lang/String" 27 New4.yN)) (W New4.tab (by simp only [site, List.mem_cons, List.mem_append, true_or, or_true])) (W := 0) (Nat.le_of_ble_eq_true rfl) (Nat.le_of_ble_eq_true rfl) (Nat.le_refl _) (by show 0 + A.slots.size ≤ A.slots.size; omega) (g := (mkF m 6 #[.val (.ref a), .val (.ref b)] [.null, .int (Int32.ofNat A.slots.size), .int (Int32.ofNat 0), .ref b, .ref a])) rfl (by rw [hml]; rfl) c2 (argsL := [.ref b, .int (Int32.ofNat 0), .int (Int32.ofNat A.slots.size), .null]) (rest := []) rfl rfl (by show 2 * 0 + 0 ≤ _; decide) (hb hbytes d6) (⟨rfl, hB.mv X0.warmed.alike hh0, f1.al X0.warmed.alike, f2.al X0.warmed.alike, hA.mv X0.warmed.alike hh0, s1.there X0.warmed.alike hh0, hz, l0, by omega, l2, fun i hi => by rw [Nat.zero_add]; exact hp i hi⟩)
  have e0 := Got.mv _ s₁ s _ _ hh0.symm (Vm.Alike.refl _) rfl E3
  obtain rfl := e0.1
  have c4 : Steps p.tables e below (s₁.setTop (entryFrame m #[.ref a, .ref b] 2)) (T3.setTop (mkF m 9 #[.val (.ref a), .val (.ref b)] [])) := g3
  exact ⟨T3, none, _, _, _, X3, by simp, rfl, by omega, (fun _ => rfl), e0, fun fs hl => c4.trans (X3.returnOut hexec hret (hb hbytes d9) hl)⟩
theorem pays {l : Launch} {R : Room} {p : Program} {e : Env} {below : List Frame} {s : State} {sargs : Array Value} {len W : Nat} (a : Addr) (D : Cell) (fV fC : Field) (b : Addr) (A : Cell) (z : Int32) (htab : tab.before sargs s = true) (hfr : 4 ≤ R.frames) (hlo : W + 65 ≤ R.locals) :
    Back l R p e below s sargs yN len W (fun A₁ a₁ => A₁.cells + 1 ≤ R.cells ∧ A₁.slots + A.slots.size ≤ R.slots ∧ P a D fV fC b A z a₁ A₁.U) (fun A₁ _ v₁ B₁ => E a D fV fC A v₁ A₁.U B₁.U ∧ B₁.locs = A₁.locs ++ [⟨a, fC.slot⟩, ⟨a, fV.slot⟩] ∧ B₁.cells = A₁.cells + 1 ∧ B₁.slots = A₁.slots + A.slots.size) :=
  (law l a D fV fC b A z).pays htab hfr (by omega)
end New1
end StrChars
namespace StrChars.Road
open Jvm Sem ClassFile Op Lib Jvm.Stand Jvm.Free Jvm.Free.XT
open Jvm.Lib.Cold (StaticIs)
abbrev ST : String := "java/lang/String"
/-- every table word that New1's law asks, flat -/
abbrev words : List Jvm.Cond := [.code New1.yN New1.yB 2 none, .initialized ST, .methodLink ST 27 New4.yN, .instanceMethod New4.yN,
  .code New4.yN New4.yB 6 none, .fieldLink ST 38 ST "COMPACT_STRINGS" "Z", .laysFinal ST ST "value" "[B", .fieldLink ST 9 ST "value" "[B", .laysFinal ST ST "coder" "B", .fieldLink ST 15 ST "coder" "B",
  .methodLink ST 1 Lib.objectInit, .instanceMethod Lib.objectInit, .code Lib.objectInit ⟨#[0xb1]⟩ 1 none, .methodLink ST 177 Cmp3.yN, .static Cmp3.yN, .methodLink ST 47 CodL.yN, .static CodL.yN,
  .code Cmp3.yN Cmp3.yB 6 (some (.array .byte)), .initialized U16, .arrayClass .byte, .methodLink U16 115 Cmp5.yN, .static Cmp5.yN, .code Cmp5.yN Cmp5.yB 7 (some .int), .code CodL.yN CodL.yB 2 (some .byte)]
theorem tab_of {a : Array Value} {s : State} (h : ∀ w ∈ words, w.before a s = true) : New1.tab.before a s = true := by
  have h5 : Cmp5.tab.before a s = true := unparts (wk h (.code Cmp5.yN Cmp5.yB 7 (some .int))) (wks h (.initialized Cmp5.yN.cls :: Cmp5.site))
  have hc : CodL.tab.before a s = true := unparts (wk h (.code CodL.yN CodL.yB 2 (some .byte))) (wks h (.initialized CodL.yN.cls :: CodL.site))
  have q5 : ∀ w ∈ Cmp5.tab :: words, w.before a s = true := fun w hw => (List.mem_cons.mp hw).elim (fun e => e ▸ h5) (h w)
  have h3 : Cmp3.tab.before a s = true := unparts (wk q5 (.code Cmp3.yN Cmp3.yB 6 (some (.array .byte)))) (wks q5 (.initialized Cmp3.yN.cls :: Cmp3.site))
  have q3 : ∀ w ∈ Cmp3.tab :: CodL.tab :: words, w.before a s = true := fun w hw => (List.mem_cons.mp hw).elim (fun e => e ▸ h3) fun hw => (List.mem_cons.mp hw).elim (fun e => e ▸ hc) (h w)
  have h4 : New4.tab.before a s = true := unparts (wk q3 (.code New4.yN New4.yB 6 none)) (wks q3 (.initialized New4.yN.cls :: New4.site))
  have q4 : ∀ w ∈ New4.tab :: words, w.before a s = true := fun w hw => (List.mem_cons.mp hw).elim (fun e => e ▸ h4) (h w)
  exact unparts (wk q4 (.code New1.yN New1.yB 2 none)) (wks q4 (.initialized New1.yN.cls :: New1.site))
/-- the words ride from the start Z to the walk's own state -/
theorem moved {Z s : State} {a0 args : Array Value} (hZ : Z.Warmed39 s.vm) (hw : ∀ d ∈ words, d.before a0 Z = true) : ∀ d ∈ words, d.before args s = true := fun d hd => by
  have q := hw d hd
  have t : ∀ d ∈ words, d = .arrayClass .byte ∨ (d.onTables && d.keepsFace) = true := by decide +kernel
  rcases t d hd with rfl | t
  · exact RoadKit.mvA hZ q
  · exact RoadKit.mv hZ q t
/-- WHAT COMES BACK, over the tables of the start Z: h the heap at the call, h' behind it -/
def Q (Z : State) (x : Addr) (A : Cell) (h : Heap) (v : Option Value) (h' : Heap) (L : List Loc) : Prop := v = none ∧ (∀ y ∈ L, y.base = x) ∧ RoadKit.Keep h h' [x] ∧ h'.size = h.size + 1 ∧ RoadKit.Exa Z h' x ST ∧ RoadKit.Fld Z h' x ST "value" "[B" (.ref h.size) ∧ RoadKit.Fld Z h' x ST "coder" "B" (.int 0) ∧
  (∃ V : Cell, RoadKit.Arr Z h' h.size V .byte ∧ V.vm = .none ∧ Z.vm.findClass "[B" = some V.cls ∧ V.slots.size = A.slots.size ∧ ∀ j, j < A.slots.size → V.slots[j]? = some (.int (lo8 (cv A j)))) ∧
  ∀ (O n d : String) (w : Value), RoadKit.Fld Z h x O n d w → RoadKit.slotOf Z O n d ≠ RoadKit.slotOf Z ST "value" "[B" → RoadKit.slotOf Z O n d ≠ RoadKit.slotOf Z ST "coder" "B" → RoadKit.Fld Z h' x O n d w
/-- **new String(chars) AT A CALL, IN THE ROAD'S FORM**: for specialBack behind newO: x the fresh String, b the char[] with the cell A -/
theorem back {p : Program} {l : Launch} {e : Env} {R : Room} {s : State} {args : Array Value} {below : List Frame} {len W : Nat} {Z : State} {a0 : Array Value} {h : Heap} (hZ : Z.Warmed39 s.vm) (hw : ∀ d ∈ words, d.before a0 Z = true) {kI : Nat} (wi : (Jvm.Cond.instantiable ST kI).before a0 Z = true)
    {x b : Addr} {A : Cell} {z : Int32} {v0 c0 : Value} (E : RoadKit.Exa Z h x ST) (V : RoadKit.Fld Z h x ST "value" "[B" v0) (C : RoadKit.Fld Z h x ST "coder" "B" c0) (K : RoadKit.Arr Z h b A .char) (hty : Typed .char A) (S : RoadKit.Sta Z h ST "COMPACT_STRINGS" "Z" (.int z)) (hz : ¬ z = 0)
    (l0 : 0 < A.slots.size) (l2 : A.slots.size ≤ 536870912) (hp : ∀ i, i < A.slots.size → ¬ 255 < cv A i) (hfr : 4 ≤ R.frames) (hlo : W + 65 ≤ R.locals) :
    Back l R p e below s args New1.yN len W (fun P a => a = #[.ref x, .ref b] ∧ P.U.heap = h ∧ P.cells + 1 ≤ R.cells ∧ P.slots + A.slots.size ≤ R.slots)
      (fun P _ v B => ∃ L, Q Z x A h v B.U.heap L ∧ B.locs = P.locs ++ L ∧ B.cells = P.cells + 1 ∧ B.slots = P.slots + A.slots.size) := by
  intro m meth c P g ig mk a X hg hsize hdg hW hn hp'
  obtain ⟨rfl, rfl, r1, r2⟩ := hp'
  have al : Z.vm.Alike P.U.vm := hZ.alike.trans X.warmed.alike
  obtain ⟨D, cfV, kV, iV, fV, hD, gV, stV, knV, obV, asV, slV⟩ := id V
  obtain ⟨D', cfC, kC, iC, fC, hD', gC, stC, -, -, asC, slC⟩ := id C
  cases hD.symm.trans hD'
  obtain ⟨D2, kD, e1, e2, e3, e4, e5⟩ := id E
  cases hD.symm.trans e1
  obtain ⟨c2, k2, i1, i2, i3, -⟩ := Cond.instantiable_spec wi
  cases e2.symm.trans i1
  cases e3.symm.trans i2
  obtain ⟨kU, u1, u2⟩ := al.2.2 _ _ e3
  have hB : Blank ST x D P.U := ⟨hD, ⟨knV, fun q hq => by rw [hq] at obV; cases obV⟩, by rw [al.findClass]; exact e2, kU, u1, by rw [u2]; exact i3, by rw [u2]; exact e5 i3⟩
  have F1 : Found ST "value" "[B" fV P.U := ⟨SBG.found_only al ⟨cfV, kV, iV, gV⟩, stV⟩
  have F2 : Found ST "coder" "B" fC P.U := ⟨SBG.found_only al ⟨cfC, kC, iC, gC⟩, stC⟩
  have hA : Ch b A P.U := ⟨⟨K.1, State.isArrayOf_alike al K.2.1, K.2.2, by omega⟩, hty⟩
  have hS : StaticIs P.U ST "COMPACT_STRINGS" "Z" (.int z) := by
    obtain ⟨cfS, iS, kS, fS, st, cS, t1, t2, t3, t4, t5, t6, t7⟩ := S
    exact StaticIs.there (s := { Z with heap := P.U.heap }) ⟨cfS, iS, kS, fS, st, cS, t1, t2, t3, t4, t5, (fun q => by rw [q] at t6; cases t6), t7⟩ al rfl
  obtain ⟨v, B, X', ⟨⟨hv, E', V', q1, q2, q3, q4, q5, q6, q7, q8, q9, q10, q11⟩, hl, hc, hs⟩, st⟩ := New1.pays x D fV fC b A z (tab_of (moved hZ hw)) hfr hlo m meth c P g ig mk _ X hg hsize hdg hW hn ⟨r1, r2, rfl, hB, F1, F2, hA, hS, hz, l0, l2, hp⟩
  have al' : Z.vm.Alike B.U.vm := hZ.alike.trans X'.warmed.alike
  have hsz : E'.slots.size = D.slots.size := by
    obtain ⟨-, -, -, kB, w1, w2, w3⟩ := q1
    obtain ⟨kB', y1, y2⟩ := al'.2.2 _ _ e3
    rw [q2.2.1] at w1
    cases w1.symm.trans y1
    rw [w3, e5 i3, y2]
  refine ⟨v, B, X', ⟨_, ⟨hv, ?_, ⟨by omega, fun y cy hy hn' => q10 y cy (by simpa using hn') hy, fun y cy hy => ?_⟩, q11, ⟨E', _, q1.1, by rw [q2.2.1]; exact e2, by rw [q2.2.1]; exact e3, by rw [q2.1]; exact obV, fun _ => by rw [hsz]; exact e5 i3⟩,
    ⟨E', cfV, kV, iV, fV, q1.1, gV, stV, by rw [q2.1]; exact knV, by rw [q2.1]; exact obV, by rw [q2.2.1]; exact asV, q3⟩, ⟨E', cfC, kC, iC, fC, q1.1, gC, stC, by rw [q2.1]; exact knV, by rw [q2.1]; exact obV, by rw [q2.2.1]; exact asC, q4⟩,
    ⟨V', ⟨q5.1, State.isArrayOf_alike al'.symm q5.2.1, q5.2.2.1⟩, q6, by rw [← al'.findClass]; exact q7, q8, fun j hj => by have := q9 j hj; rwa [Nat.zero_add] at this⟩, fun O n d w F n1 n2 => ?_⟩, hl, hc, hs⟩, st⟩
  · intro y hy
    simp only [List.mem_cons, List.not_mem_nil, or_false] at hy
    rcases hy with rfl | rfl <;> rfl
  · by_cases q : y = x
    · subst q
      cases hD.symm.trans hy
      exact ⟨E', q1.1, q2.2.1, q2.1, hsz⟩
    · exact ⟨cy, q10 y cy q hy, rfl, rfl, rfl⟩
  · obtain ⟨D3, cf, k, i, f, g1, g2, g3, g4, g5, g6, g7⟩ := F
    cases hD.symm.trans g1
    simp only [RoadKit.slotOf, g2, gV, gC, Option.map_some, Option.getD_some] at n1 n2
    exact ⟨E', cf, k, i, f, q1.1, g2, g3, by rw [q2.1]; exact g4, by rw [q2.1]; exact g5, by rw [q2.2.1]; exact g6, by rw [q2.2.2 f.slot (by simp [n1, n2])]; exact g7⟩
end StrChars.Road
namespace StrChars.Road
open Jvm Sem ClassFile Op Lib Jvm.Stand Jvm.Free Jvm.Free.XT
/-- WHAT COMES BACK, the byte[] as a list of values -/
def QA (Z : State) (x : Addr) (zn : Int32) (cs : List Int32) (h : Heap) (v : Option Value) (h' : Heap) (L : List Loc) : Prop := v = none ∧ (∀ y ∈ L, y.base = x) ∧ RoadKit.Keep h h' [x] ∧ h'.size = h.size + 1 ∧ RoadKit.Exa Z h' x ST ∧ RoadKit.Fld Z h' x ST "value" "[B" (.ref h.size) ∧ RoadKit.Fld Z h' x ST "coder" "B" (.int 0) ∧
  (∃ kb, Z.vm.findClass "[B" = some kb ∧ RoadKit.Arv Z h' h.size kb .byte zn (cs.map fun c => .int (lo8 c)) (.int 0)) ∧
  ∀ (O n d : String) (w : Value), RoadKit.Fld Z h x O n d w → RoadKit.slotOf Z O n d ≠ RoadKit.slotOf Z ST "value" "[B" → RoadKit.slotOf Z O n d ≠ RoadKit.slotOf Z ST "coder" "B" → RoadKit.Fld Z h' x O n d w
/-- **new String(chars) AT A CALL, THE ARRAYS AS LISTS**: the char[] at b holds cs, not empty, no char above 255 -/
theorem backArv {p : Program} {l : Launch} {e : Env} {R : Room} {s : State} {args : Array Value} {below : List Frame} {len W : Nat} {Z : State} {a0 : Array Value} {h : Heap} (hZ : Z.Warmed39 s.vm) (hw : ∀ d ∈ words, d.before a0 Z = true) {kI : Nat} (wi : (Jvm.Cond.instantiable ST kI).before a0 Z = true)
    {x b : Addr} {k : ClassId} {zn z : Int32} {cs : List Int32} {dv v0 c0 : Value} (E : RoadKit.Exa Z h x ST) (V : RoadKit.Fld Z h x ST "value" "[B" v0) (C : RoadKit.Fld Z h x ST "coder" "B" c0) (K : RoadKit.Arv Z h b k .char zn (cs.map Value.int) dv) (S : RoadKit.Sta Z h ST "COMPACT_STRINGS" "Z" (.int z)) (hz : ¬ z = 0)
    (hlen : zn.toNatClampNeg = cs.length) (h0 : 0 < cs.length) (hbig : cs.length ≤ 536870912) (hall : ∀ c ∈ cs, ¬ 255 < c) (hfr : 4 ≤ R.frames) (hlo : W + 65 ≤ R.locals) :
    Back l R p e below s args New1.yN len W (fun P a => a = #[.ref x, .ref b] ∧ P.U.heap = h ∧ P.cells + 1 ≤ R.cells ∧ P.slots + cs.length ≤ R.slots)
      (fun P _ v B => ∃ L, QA Z x zn cs h v B.U.heap L ∧ B.locs = P.locs ++ L ∧ B.cells = P.cells + 1 ∧ B.slots = P.slots + cs.length) := by
  obtain ⟨A, K1, K2, K3, K4, K5, K6⟩ := K
  have e : A.slots.size = cs.length := K3.trans hlen
  have hat : ∀ (i : Nat) (hi : i < cs.length), A.slots[i]? = some (.int cs[i]) := fun i hi => by rw [K5 i (by omega)]; simp [List.getD_eq_getElem?_getD, hi]
  have hcv : ∀ (i : Nat) (hi : i < cs.length), cv A i = cs[i] := fun i hi => by unfold cv; rw [hat i hi]
  have hty : Typed .char A := fun i v hv => by
    have hi : i < A.slots.size := (Array.getElem?_eq_some_iff.mp hv).1
    have q := K5 i hi
    rw [hv] at q
    rw [Option.some.inj q]
    exact K6 i hi
  refine Back.mono (back hZ hw wi E V C K1 hty S hz (by omega) (by omega) (fun i hi => by rw [hcv i (by omega)]; exact hall _ (List.getElem_mem _)) hfr hlo) (fun P a hp => ⟨hp.1, hp.2.1, hp.2.2.1, by rw [e]; exact hp.2.2.2⟩) (fun P a v B hp hq => ?_)
  obtain ⟨L, ⟨q1, q2, q3, q4, q5, q6, q7, ⟨V', v1, v2, v3, v4, v5⟩, q9⟩, hl, hc, hs⟩ := hq
  refine ⟨L, ⟨q1, q2, q3, q4, q5, q6, q7, ⟨V'.cls, v3, V', v1, rfl, by rw [v4, e, hlen], K4, fun i hi => ?_, fun i hi => ?_⟩, q9⟩, hl, hc, by rw [hs, e]⟩
  · have hi' : i < cs.length := by omega
    rw [v5 i (by omega), hcv i hi']; simp [List.getD_eq_getElem?_getD, hi']
  · have hi' : i < cs.length := by omega
    simp only [List.getD_eq_getElem?_getD, List.getElem?_map, List.getElem?_eq_getElem hi', Option.map_some, Option.getD_some]
    exact fits_lo8 _
end StrChars.Road
namespace StrChars.Road
open Jvm Sem ClassFile Op Lib Jvm.Stand Jvm.Free Jvm.Free.XT
/-- WHAT COMES BACK, in the writer's own shape -/
def QV (Z : State) (x : Addr) (N : Int32) (bs : List Int32) (h : Heap) (n0 : Nat) (v : Option Value) (h' : Heap) (L : List Loc) : Prop := v = none ∧ RoadKit.Fr n0 L ∧ RoadKit.Keep h h' [x] ∧ RoadKit.Exa Z h' x ST ∧ RoadKit.Fld Z h' x ST "coder" "B" (.int 0) ∧
  ∃ (t : Addr) (kb : ClassId), n0 ≤ t ∧ h.size ≤ t ∧ ¬ t = x ∧ RoadKit.Fld Z h' x ST "value" "[B" (.ref t) ∧ RoadKit.Arv Z h' t kb .byte N (bs.map Value.int) (.int 0)
/-- **new String(chars) AT A CALL, FOR THE WRITER**: a char[] of n known ints, each 0 to 255 -/
theorem backV {p : Program} {l : Launch} {e : Env} {R : Room} {s : State} {args : Array Value} {below : List Frame} {len W : Nat} {Z : State} {a0 : Array Value} {h : Heap} (hZ : Z.Warmed39 s.vm) (hw : ∀ d ∈ words, d.before a0 Z = true) {kI : Nat} (wi : (Jvm.Cond.instantiable ST kI).before a0 Z = true)
    {x b : Addr} {kC : ClassId} {cs bs : List Int32} {d v0 c0 : Value} {z N : Int32} {n n0 : Nat} (hx0 : n0 ≤ x) (hh0 : n0 ≤ h.size) (E : RoadKit.Exa Z h x ST) (V : RoadKit.Fld Z h x ST "value" "[B" v0) (C : RoadKit.Fld Z h x ST "coder" "B" c0) (K : RoadKit.Arv Z h b kC .char N (cs.map Value.int) d) (S : RoadKit.Sta Z h ST "COMPACT_STRINGS" "Z" (.int z)) (hz : ¬ z = 0)
    (hn : cs.length = n) (hN : N = Int32.ofNat n) (l0 : 0 < n) (l2 : n ≤ 4000) (hp : ∀ c ∈ cs, ¬ c < 0 ∧ ¬ (255 : Int32) < c) (hb : bs = cs.map (fun c => c.toInt8.toInt32)) (hfr : 4 ≤ R.frames) (hlo : W + 65 ≤ R.locals) :
    Back l R p e below s args (⟨"java/lang/String", "<init>", "([C)V"⟩ : MethodName) len W (fun P a => a = #[.ref x, .ref b] ∧ P.U.heap = h ∧ P.cells + 1 ≤ R.cells ∧ P.slots + n ≤ R.slots)
      (fun P _ v B => ∃ L, QV Z x N bs h n0 v B.U.heap L ∧ B.locs = P.locs ++ L ∧ B.cells = P.cells + 1 ∧ B.slots = P.slots + n) := by
  subst hn hN hb
  refine Back.mono (backArv hZ hw wi E V C K S hz (n32 (by omega)) l0 (by omega) (fun c hc => (hp c hc).2) hfr hlo) (fun P a hp => hp) (fun P a v B hp hq => ?_)
  obtain ⟨L, ⟨q1, q2, q3, q4, q5, q6, q7, ⟨kb, v1, v2⟩, q9⟩, hl, hc, hs⟩ := hq
  exact ⟨L, ⟨q1, fun y hy => by rw [q2 y hy]; exact hx0, q3, q5, q7, h.size, kb, hh0, Nat.le_refl _, Nat.ne_of_gt E.lt, q6, by rw [List.map_map]; exact v2⟩, hl, hc, hs⟩
end StrChars.Road
end Jvm.Pilot.@@N@@
namespace Jvm.Pilot.@@N@@
open Jvm Jvm.ClassFile Sem Op Lib Jvm.Free Jvm.Stand Jvm.LawKit Jvm.RoadKit Bundle Jvm.Pilot.@@N@@.Jvm.D
/-! a run that ends well: what this text is made of -/
def own_Run (p : Program) (e : Env) (below : List Frame) (Φ : State → Prop) (S : State) : Prop := ∃ t, Steps p.tables e below S t ∧ Φ t
def own_Fin (s : State) (below : List Frame) (C D : Nat) (Q : Option Value → Heap → List Loc → Prop) (t : State) : Prop :=
  t.status = .running ∧ ∃ v L, Ended t below (.returned v) ∧ Q v t.heap L ∧ FrameEnd s (.returned v) t L C D
def own_Met (l : Launch) (Z : State) (y : MethodName) (bytes : ByteArray) (maxL : Nat) (ret : Option FieldType) (rm : Room) (as : Array Value) (h : Heap) (Q : Option Value → Heap → List Loc → Prop) : Prop :=
  ∀ ws : List Jvm.Cond, MetFree l y (head1 (Jvm.Cond.code y bytes maxL ret :: ws) rm) (fun a U => a = as ∧ Z.Warmed39 U.vm ∧ U.heap = h) (fun _ _ _ _ _ => True) (fun _ U o U' => ∃ v L, o = .returned v ∧ Q v U'.heap L ∧ FrameEnd U o U' L rm.cells rm.slots)
section OwnRun
variable {p : Program} {l : Launch} {e : Env} {R : Room} {s : State} {m : MethodId} {args : Array Value} {below : List Frame} {meth : Method} {c : Code} {T : State} {locs : List Loc} {cells slots : Nat} {Φ : State → Prop} {S S' : State} {Z : State} {a0 : Array Value} {h : Heap}
theorem own_go (st : ∀ t, Steps p.tables e below S' t → Steps p.tables e below S t) (r : own_Run p e below Φ S') : own_Run p e below Φ S := r.elim fun t q => ⟨t, st t q.1, q.2⟩
theorem own_via (st : Steps p.tables e below S S') (r : own_Run p e below Φ S') : own_Run p e below Φ S := r.elim fun t q => ⟨t, st.trans q.1, q.2⟩
theorem own_cast {g g' : JFrame} (q : g = g') (r : own_Run p e below Φ (T.setTop g')) : own_Run p e below Φ (T.setTop g) := q ▸ r
theorem own_body {C D : Nat} {Q : Option Value → Heap → List Loc → Prop} (r : own_Run p e below (own_Fin s below C D Q) S) :
    ∃ s₂ o, Steps p.tables e below S s₂ ∧ s₂.status = .running ∧ Ended s₂ below o ∧ ∃ v L, o = .returned v ∧ Q v s₂.heap L ∧ FrameEnd s o s₂ L C D := by
  obtain ⟨t, q1, q2, v, L, q3, q4, q5⟩ := r
  exact ⟨t, _, q1, q2, q3, v, L, rfl, q4, q5⟩
variable {C D : Nat} {Q : Option Value → Heap → List Loc → Prop}
theorem own_retI (X : Stand p l e R s m args below meth c T locs cells slots) (hx : p.tables.exec = Jvm.exec) (hret : meth.sig.returnType = some .int) (hlk : meth.locks = false) {pc : Nat} {Ls : Array Slot} {z : Int32} {rest : List Value} (hd : decode c.code pc = .ok (.ireturn, 1)) (eT : T.heap = h) (hq : Q (some (.int z)) h locs) (hc : cells ≤ C) (hs : slots ≤ D) :
    own_Run p e below (own_Fin s below C D Q) (T.setTop (mkF m pc Ls (.int z :: rest))) := by
  obtain ⟨fs, hr, hrun, hended, hW, hsame⟩ := X.leave (v := some (.int z)) (fun q => by rw [hret] at q; cases q) hlk
  exact ⟨_, retI X hx hret hd hr, hrun, _, _, hended, by show Q _ T.heap _; rw [eT]; exact hq, ⟨_, rfl⟩, hW, hsame.mono hc hs⟩
theorem own_retN (X : Stand p l e R s m args below meth c T locs cells slots) (hx : p.tables.exec = Jvm.exec) {t : FieldType} (hret : meth.sig.returnType = some t) (ht : t = .boolean ∨ t = .byte ∨ t = .char ∨ t = .short) (hlk : meth.locks = false) {pc : Nat} {Ls : Array Slot} {z : Int32} {rest : List Value} (hd : decode c.code pc = .ok (.ireturn, 1)) (eT : T.heap = h) (hq : Q (some (.int (nar t z))) h locs) (hc : cells ≤ C) (hs : slots ≤ D) :
    own_Run p e below (own_Fin s below C D Q) (T.setTop (mkF m pc Ls (.int z :: rest))) := by
  obtain ⟨fs, hr, hrun, hended, hW, hsame⟩ := X.leave (v := some (.int (nar t z))) (fun q => by rw [hret] at q; cases q) hlk
  exact ⟨_, retN X hx hret ht hd hr, hrun, _, _, hended, by show Q _ T.heap _; rw [eT]; exact hq, ⟨_, rfl⟩, hW, hsame.mono hc hs⟩
theorem own_retV (X : Stand p l e R s m args below meth c T locs cells slots) (hx : p.tables.exec = Jvm.exec) (hret : meth.sig.returnType = none) (hlk : meth.locks = false) {pc : Nat} {Ls : Array Slot} (hd : decode c.code pc = .ok (.return_, 1)) (eT : T.heap = h) (hq : Q none h locs) (hc : cells ≤ C) (hs : slots ≤ D) :
    own_Run p e below (own_Fin s below C D Q) (T.setTop (mkF m pc Ls [])) := by
  obtain ⟨fs, hr, hrun, hended, hW, hsame⟩ := X.leave (v := none) (fun _ => rfl) hlk
  exact ⟨_, X.returnOut hx hret hd hr, hrun, _, _, hended, by show Q _ T.heap _; rw [eT]; exact hq, ⟨_, rfl⟩, hW, hsame.mono hc hs⟩
theorem own_retO (X : Stand p l e R s m args below meth c T locs cells slots) (hx : p.tables.exec = Jvm.exec) {t : FieldType} {i : Instr} {w : Value} (hret : meth.sig.returnType = some t) (hn : narrow t w = w)
    (hi : (i = .ireturn ∧ (t = .int ∨ t = .boolean ∨ t = .byte ∨ t = .char ∨ t = .short) ∧ ∃ z, w = .int z) ∨ (i = .lreturn ∧ t = .long ∧ ∃ z, w = .long z) ∨ (i = .dreturn ∧ t = .double ∧ ∃ z, w = .double z) ∨ (i = .freturn ∧ t = .float ∧ ∃ z, w = .float z) ∨ (i = .areturn ∧ t.isReference = true ∧ w.isRef = true))
    (hlk : meth.locks = false) {pc : Nat} {Ls : Array Slot} {rest : List Value} (hd : decode c.code pc = .ok (i, 1)) (eT : T.heap = h) (hq : Q (some w) h locs) (hc : cells ≤ C) (hs : slots ≤ D) :
    own_Run p e below (own_Fin s below C D Q) (T.setTop (mkF m pc Ls (w :: rest))) := by
  obtain ⟨fs, hr, hrun, hended, hW, hsame⟩ := X.leave (v := some w) (fun q => by rw [hret] at q; cases q) hlk
  exact ⟨_, retOut X hx hret hn hi hd hr, hrun, _, _, hended, by show Q _ T.heap _; rw [eT]; exact hq, ⟨_, rfl⟩, hW, hsame.mono hc hs⟩
/-- who pays a call -/
def own_Bk (l : Launch) (R : Room) (p : Program) (e : Env) (below : List Frame) (s : State) (args : Array Value) (y : MethodName) (W : Nat) (as : Array Value) (h : Heap) (cc ss : Nat) (Q : Option Value → Heap → List Loc → Prop) : Prop :=
  Back l R p e below s args y 3 W (fun A a => a = as ∧ A.U.heap = h ∧ A.cells + cc ≤ R.cells ∧ A.slots + ss ≤ R.slots) (fun A _ v B => ∃ L, Q v B.U.heap L ∧ B.locs = A.locs ++ L ∧ B.cells = A.cells + cc ∧ B.slots = A.slots + ss)
theorem own_bk {y : MethodName} {bytes : ByteArray} {maxL : Nat} {ret : Option FieldType} {rm : Room} {W : Nat} {as : Array Value} (hM : own_Met l Z y bytes maxL ret rm as h Q) (hZ : Z.Warmed39 s.vm) (wc : (Jvm.Cond.code y bytes maxL ret).before a0 Z = true) (wz : (Jvm.Cond.initialized y.cls).before a0 Z = true) (hf : rm.frames + 1 ≤ R.frames) (hl : W + (maxL + 11) + rm.locals ≤ R.locals) :
    own_Bk l R p e below s args y W as h rm.cells rm.slots Q := backOf (W := W) (hM []) hZ wc wz hf hl
/-- a static method by its contract -/
theorem own_callS (X : Stand p l e R s m args below meth c T locs cells slots) (hx : p.tables.exec = Jvm.exec) (hZ : Z.Warmed39 s.vm) {own : String} {index : Nat} {y : MethodName} {bytes : ByteArray} {maxL : Nat} {ret : Option FieldType} {cc ss : Nat}
    (hown : s.vm.findClass own = some m.cls) (w1 : (Jvm.Cond.methodLink own index y).before a0 Z = true) (w2 : (Jvm.Cond.static y).before a0 Z = true) (w3 : (Jvm.Cond.initialized y.cls).before a0 Z = true) (w4 : (Jvm.Cond.code y bytes maxL ret).before a0 Z = true)
    (hy : y.cls ≠ "java/lang/invoke/MethodHandle" ∧ y.cls ≠ "java/lang/invoke/VarHandle") {W : Nat} {argsL rest : List Value} (hK : own_Bk l R p e below s args y W argsL.toArray h cc ss Q) (eT : T.heap = h)
    {g : JFrame} (hg : g.method = m) (hsize : g.locals.size = c.maxLocals) (hlen : ∀ sig, parseMethodDescriptor y.desc = some sig → argsL.length = sig.parameters.length)
    (hstack : g.stack = argsL.reverse ++ rest) (hW : 2 * g.monitorRoom + (rest.map fun v => v.category).sum ≤ W) (hdg : decode c.code g.pc = .ok (.invokestatic index, 3))
    (hcl : cells + cc ≤ R.cells) (hsl : slots + ss ≤ R.slots)
    (k : ∀ v T' h' L, Stand p l e R s m args below meth c T' (locs ++ L) (cells + cc) (slots + ss) → T'.heap = h' → Q v h' L → own_Run p e below Φ (T'.setTop { g with pc := g.pc + 3, stack := v.toList ++ rest })) : own_Run p e below Φ (T.setTop g) := by
  obtain ⟨v, _, ⟨T', L', k', n'⟩, -, X', ⟨Lc, hQ, l1, y1, z1⟩, st⟩ := Jvm.LawKit.callS X hx (y := y) hown (mvT hZ w1) (mvT hZ w2) (mvT hZ w3) (mvT hZ w4) hy hK hg hsize hlen hstack hW hdg (fun _ _ => ⟨rfl, eT, hcl, hsl⟩)
  dsimp only [Pt.U, Pt.locs, Pt.cells, Pt.slots] at X' l1 y1 z1 st hQ
  subst l1 y1 z1
  exact own_go st (k v T' _ Lc X' rfl hQ)
/-- a constructor by its contract -/
theorem own_callI (X : Stand p l e R s m args below meth c T locs cells slots) (hx : p.tables.exec = Jvm.exec) (hZ : Z.Warmed39 s.vm) {own : String} {index : Nat} {y : MethodName} {bytes : ByteArray} {maxL : Nat} {cc ss : Nat} (hy1 : y.name = "<init>")
    (hown : s.vm.findClass own = some m.cls) (w1 : (Jvm.Cond.methodLink own index y).before a0 Z = true) (w2 : (Jvm.Cond.instanceMethod y).before a0 Z = true) (w4 : (Jvm.Cond.code y bytes maxL none).before a0 Z = true)
    (hy : y.cls ≠ "java/lang/invoke/MethodHandle" ∧ y.cls ≠ "java/lang/invoke/VarHandle") {W : Nat} {a : Addr} {argsL rest : List Value} (hK : own_Bk l R p e below s args y W (.ref a :: argsL).toArray h cc ss Q) (eT : T.heap = h)
    {g : JFrame} (hg : g.method = m) (hsize : g.locals.size = c.maxLocals) (hlen : ∀ sig, parseMethodDescriptor y.desc = some sig → argsL.length = sig.parameters.length)
    (hstack : g.stack = argsL.reverse ++ .ref a :: rest) (hW : 2 * g.monitorRoom + (rest.map fun v => v.category).sum ≤ W) (hdg : decode c.code g.pc = .ok (.invokespecial index, 3))
    (hcl : cells + cc ≤ R.cells) (hsl : slots + ss ≤ R.slots)
    (k : ∀ v T' h' L, Stand p l e R s m args below meth c T' (locs ++ L) (cells + cc) (slots + ss) → T'.heap = h' → Q v h' L → own_Run p e below Φ (T'.setTop { g with pc := g.pc + 3, stack := v.toList ++ rest })) : own_Run p e below Φ (T.setTop g) := by
  obtain ⟨v, _, ⟨T', L', k', n'⟩, -, X', ⟨Lc, hQ, l1, y1, z1⟩, st⟩ := X.specialBack hx (y := y) hy1 hown (mvT hZ w1) (mvT hZ w2) (mvT hZ w4) hy hK hg hsize (Steps.refl _) (a := a) hlen hstack hW hdg (fun _ _ => ⟨rfl, eT, hcl, hsl⟩)
  dsimp only [Pt.U, Pt.locs, Pt.cells, Pt.slots] at X' l1 y1 z1 st hQ
  subst l1 y1 z1
  exact own_via st (k v T' _ Lc X' rfl hQ)
/-- an instance method by the contract of the body that the receiver's class selects -/
theorem own_callV (X : Stand p l e R s m args below meth c T locs cells slots) (hx : p.tables.exec = Jvm.exec) (hZ : Z.Warmed39 s.vm) {own C : String} {index : Nat} {y z : MethodName} {cc ss : Nat}
    (hown : s.vm.findClass own = some m.cls) (w1 : (Jvm.Cond.methodLink own index y).before a0 Z = true) (w2 : (Jvm.Cond.declares y).before a0 Z = true) (hnf : NotFace s y) (w3 : (Jvm.Cond.selects C y z).before a0 Z = true) (w4 : (Jvm.Cond.instanceMethod z).before a0 Z = true)
    (hy : y.cls ≠ "java/lang/invoke/MethodHandle" ∧ y.cls ≠ "java/lang/invoke/VarHandle") {W : Nat} {a : Addr} {argsL rest : List Value} (hK : own_Bk l R p e below s args z W (.ref a :: argsL).toArray h cc ss Q) (eT : T.heap = h) (E : Exa Z h a C)
    {g : JFrame} (hg : g.method = m) (hsize : g.locals.size = c.maxLocals) (hlen : ∀ sig, parseMethodDescriptor y.desc = some sig → argsL.length = sig.parameters.length)
    (hstack : g.stack = argsL.reverse ++ .ref a :: rest) (hW : 2 * g.monitorRoom + (rest.map fun v => v.category).sum ≤ W) (hdg : decode c.code g.pc = .ok (.invokevirtual index, 3))
    (hcl : cells + cc ≤ R.cells) (hsl : slots + ss ≤ R.slots)
    (k : ∀ v T' h' L, Stand p l e R s m args below meth c T' (locs ++ L) (cells + cc) (slots + ss) → T'.heap = h' → Q v h' L → own_Run p e below Φ (T'.setTop { g with pc := g.pc + 3, stack := v.toList ++ rest })) : own_Run p e below Φ (T.setTop g) := by
  obtain ⟨cq, kq, qa, qb, qc⟩ := isOf hZ eT E
  obtain ⟨v, _, ⟨T', L', k', n'⟩, -, X', ⟨Lc, hQ, l1, y1, z1⟩, st⟩ := X.virtualBack hx (y := y) (z := z) hown (mvT hZ w1) (mvT hZ w2) hnf (mvT hZ w3) (mvT hZ w4) hy hK qa qc hg hsize (Steps.refl _) hlen hstack hW hdg (fun _ _ => ⟨rfl, eT, hcl, hsl⟩)
  dsimp only [Pt.U, Pt.locs, Pt.cells, Pt.slots] at X' l1 y1 z1 st hQ
  subst l1 y1 z1
  exact own_via st (k v T' _ Lc X' rfl hQ)
/-- an instance method that a superclass declares -/
theorem own_callU (X : Stand p l e R s m args below meth c T locs cells slots) (hx : p.tables.exec = Jvm.exec) (hZ : Z.Warmed39 s.vm) {own C owner : String} {index : Nat} {y z : MethodName} {cc ss : Nat}
    (hown : s.vm.findClass own = some m.cls) (w1 : (Jvm.Cond.methodLink own index y).before a0 Z = true) (w0 : (Jvm.Cond.sameMethod y.cls owner y.name y.desc).before a0 Z = true) (w2 : (Jvm.Cond.declares ⟨owner, y.name, y.desc⟩).before a0 Z = true) (w3 : (Jvm.Cond.selects C y z).before a0 Z = true) (w4 : (Jvm.Cond.instanceMethod z).before a0 Z = true)
    (hy : owner ≠ "java/lang/invoke/MethodHandle" ∧ owner ≠ "java/lang/invoke/VarHandle") {W : Nat} {a : Addr} {argsL rest : List Value} (hK : own_Bk l R p e below s args z W (.ref a :: argsL).toArray h cc ss Q) (eT : T.heap = h) (E : Exa Z h a C)
    {g : JFrame} (hg : g.method = m) (hsize : g.locals.size = c.maxLocals) (hlen : ∀ sig, parseMethodDescriptor y.desc = some sig → argsL.length = sig.parameters.length)
    (hstack : g.stack = argsL.reverse ++ .ref a :: rest) (hW : 2 * g.monitorRoom + (rest.map fun v => v.category).sum ≤ W) (hdg : decode c.code g.pc = .ok (.invokevirtual index, 3))
    (hcl : cells + cc ≤ R.cells) (hsl : slots + ss ≤ R.slots)
    (k : ∀ v T' h' L, Stand p l e R s m args below meth c T' (locs ++ L) (cells + cc) (slots + ss) → T'.heap = h' → Q v h' L → own_Run p e below Φ (T'.setTop { g with pc := g.pc + 3, stack := v.toList ++ rest })) : own_Run p e below Φ (T.setTop g) := by
  obtain ⟨cq, kq, qa, qb, qc⟩ := isOf hZ eT E
  obtain ⟨v, _, ⟨T', L', k', n'⟩, -, X', ⟨Lc, hQ, l1, y1, z1⟩, st⟩ := X.virtualBackUp hx (x := y) (y := z) hown (mvT hZ w1) (mvT hZ w0) (mvT hZ w2) hy (mvT hZ w3) (mvT hZ w4) hK qa qc hg hsize (Steps.refl _) hlen hstack hW hdg (fun _ _ => ⟨rfl, eT, hcl, hsl⟩)
  dsimp only [Pt.U, Pt.locs, Pt.cells, Pt.slots] at X' l1 y1 z1 st hQ
  subst l1 y1 z1
  exact own_via st (k v T' _ Lc X' rfl hQ)
/-- a private method by its contract -/
theorem own_callP (X : Stand p l e R s m args below meth c T locs cells slots) (hx : p.tables.exec = Jvm.exec) (hZ : Z.Warmed39 s.vm) {own C : String} {index : Nat} {y : MethodName} {bytes : ByteArray} {maxL : Nat} {ret : Option FieldType} {cc ss : Nat}
    (hown : s.vm.findClass own = some m.cls) (w1 : (Jvm.Cond.methodLink own index y).before a0 Z = true) (w2 : (Jvm.Cond.instanceMethod y).before a0 Z = true) (w3 : (Jvm.Cond.selects y.cls y y).before a0 Z = true) (w4 : (Jvm.Cond.privateMethod y).before a0 Z = true) (w6 : (Jvm.Cond.code y bytes maxL ret).before a0 Z = true)
    (hy : y.cls ≠ "java/lang/invoke/MethodHandle" ∧ y.cls ≠ "java/lang/invoke/VarHandle") {W : Nat} {a : Addr} {argsL rest : List Value} (hK : own_Bk l R p e below s args y W (.ref a :: argsL).toArray h cc ss Q) (eT : T.heap = h) (E : Exa Z h a C)
    {g : JFrame} (hg : g.method = m) (hsize : g.locals.size = c.maxLocals) (hlen : ∀ sig, parseMethodDescriptor y.desc = some sig → argsL.length = sig.parameters.length)
    (hstack : g.stack = argsL.reverse ++ .ref a :: rest) (hW : 2 * g.monitorRoom + (rest.map fun v => v.category).sum ≤ W) (hdg : decode c.code g.pc = .ok (.invokevirtual index, 3))
    (hcl : cells + cc ≤ R.cells) (hsl : slots + ss ≤ R.slots)
    (k : ∀ v T' h' L, Stand p l e R s m args below meth c T' (locs ++ L) (cells + cc) (slots + ss) → T'.heap = h' → Q v h' L → own_Run p e below Φ (T'.setTop { g with pc := g.pc + 3, stack := v.toList ++ rest })) : own_Run p e below Φ (T.setTop g) := by
  obtain ⟨cq, q1, q2⟩ := E.cell
  obtain ⟨v, _, ⟨T', L', k', n'⟩, -, X', ⟨Lc, hQ, l1, y1, z1⟩, st⟩ := X.privateBack hx (y := y) hown (mvT hZ w1) (mvT hZ w2) (mvT hZ w3) (Cond.privateMethod_at (mvP hZ w4 (args := #[]))) (mvT hZ w6) hy hK hg hsize (Steps.refl _) (a := a) (by rw [eT]; exact q1) q2 hlen hstack hW hdg (fun _ _ => ⟨rfl, eT, hcl, hsl⟩)
  dsimp only [Pt.U, Pt.locs, Pt.cells, Pt.slots] at X' l1 y1 z1 st hQ
  subst l1 y1 z1
  exact own_via st (k v T' _ Lc X' rfl hQ)
/-- arrays: reading -/
theorem own_iaload (X : Stand p l e R s m args below meth c T locs cells slots) (hx : p.tables.exec = Jvm.exec) (hZ : Z.Warmed39 s.vm) (eT : T.heap = h) {a : Addr} {k : ClassId} {z j : Int32} {vs : List Value} {dv v : Value} (V : Arv Z h a k .int z vs dv) (hj : ¬ j < 0 ∧ j < z) (hv : vs.getD j.toNatClampNeg dv = v)
    {g : JFrame} (hg : g.method = m) {rest : List Value} (hs : g.stack = .int j :: .ref a :: rest) (hd : decode c.code g.pc = .ok (.iaload, 1)) (r : own_Run p e below Φ (T.setTop { g with pc := g.pc + 1, stack := v :: rest })) : own_Run p e below Φ (T.setTop g) := by
  obtain ⟨cl, A, -, S, -, H, -⟩ := V
  exact own_go (fun t q => X.iaload hx (j := j) (v := v) (by rw [eT]; exact A.1) (State.isArrayOf_alike hZ.alike A.2.1) A.2.2 (inb_of S hj) (Has.at H (inb_of S hj) hv) hg hs hd t q) r
theorem own_laload (X : Stand p l e R s m args below meth c T locs cells slots) (hx : p.tables.exec = Jvm.exec) (hZ : Z.Warmed39 s.vm) (eT : T.heap = h) {a : Addr} {k : ClassId} {z j : Int32} {vs : List Value} {dv v : Value} (V : Arv Z h a k .long z vs dv) (hj : ¬ j < 0 ∧ j < z) (hv : vs.getD j.toNatClampNeg dv = v)
    {g : JFrame} (hg : g.method = m) {rest : List Value} (hs : g.stack = .int j :: .ref a :: rest) (hd : decode c.code g.pc = .ok (.laload, 1)) (r : own_Run p e below Φ (T.setTop { g with pc := g.pc + 1, stack := v :: rest })) : own_Run p e below Φ (T.setTop g) := by
  obtain ⟨cl, A, -, S, -, H, -⟩ := V
  exact own_go (fun t q => X.laload hx (j := j) (v := v) (by rw [eT]; exact A.1) (State.isArrayOf_alike hZ.alike A.2.1) A.2.2 (inb_of S hj) (Has.at H (inb_of S hj) hv) hg hs hd t q) r
theorem own_caload (X : Stand p l e R s m args below meth c T locs cells slots) (hx : p.tables.exec = Jvm.exec) (hZ : Z.Warmed39 s.vm) (eT : T.heap = h) {a : Addr} {k : ClassId} {z j : Int32} {vs : List Value} {dv v : Value} (V : Arv Z h a k .char z vs dv) (hj : ¬ j < 0 ∧ j < z) (hv : vs.getD j.toNatClampNeg dv = v)
    {g : JFrame} (hg : g.method = m) {rest : List Value} (hs : g.stack = .int j :: .ref a :: rest) (hd : decode c.code g.pc = .ok (.caload, 1)) (r : own_Run p e below Φ (T.setTop { g with pc := g.pc + 1, stack := v :: rest })) : own_Run p e below Φ (T.setTop g) := by
  obtain ⟨cl, A, -, S, -, H, -⟩ := V
  exact own_go (fun t q => X.caload hx (j := j) (v := v) (by rw [eT]; exact A.1) (State.isArrayOf_alike hZ.alike A.2.1) A.2.2 (inb_of S hj) (Has.at H (inb_of S hj) hv) hg hs hd t q) r
theorem own_baload (X : Stand p l e R s m args below meth c T locs cells slots) (hx : p.tables.exec = Jvm.exec) (hZ : Z.Warmed39 s.vm) (eT : T.heap = h) {a : Addr} {k : ClassId} {z j : Int32} {vs : List Value} {dv v : Value} (V : Arv Z h a k .byte z vs dv) (hj : ¬ j < 0 ∧ j < z) (hv : vs.getD j.toNatClampNeg dv = v)
    {g : JFrame} (hg : g.method = m) {rest : List Value} (hs : g.stack = .int j :: .ref a :: rest) (hd : decode c.code g.pc = .ok (.baload, 1)) (r : own_Run p e below Φ (T.setTop { g with pc := g.pc + 1, stack := v :: rest })) : own_Run p e below Φ (T.setTop g) := by
  obtain ⟨cl, A, -, S, -, H, -⟩ := V
  exact own_go (fun t q => X.baloadBytes hx (j := j) (v := v) (by rw [eT]; exact A.1) (State.isArrayOf_alike hZ.alike A.2.1) A.2.2 (inb_of S hj) (Has.at H (inb_of S hj) hv) hg hs hd t q) r
theorem own_arrlen (X : Stand p l e R s m args below meth c T locs cells slots) (hx : p.tables.exec = Jvm.exec) (hZ : Z.Warmed39 s.vm) (eT : T.heap = h) {a : Addr} {k : ClassId} {ty : FieldType} {z : Int32} {vs : List Value} {dv : Value} (V : Arv Z h a k ty z vs dv)
    {g : JFrame} (hg : g.method = m) {rest : List Value} (hs : g.stack = .ref a :: rest) (hd : decode c.code g.pc = .ok (.arraylength, 1)) (r : own_Run p e below Φ (T.setTop { g with pc := g.pc + 1, stack := .int z :: rest })) : own_Run p e below Φ (T.setTop g) := by
  obtain ⟨cl, A, -, S, M, -, -⟩ := V
  refine own_go (fun t q => X.arraylength hx (by rw [eT]; exact A.1) (State.isArrayOf_alike hZ.alike A.2.1) hg hs hd t q) ?_
  rw [len_of S M]; exact r
/-- arrays: writing -/
theorem own_iastore (X : Stand p l e R s m args below meth c T locs cells slots) (hx : p.tables.exec = Jvm.exec) (hZ : Z.Warmed39 s.vm) (eT : T.heap = h) {a : Addr} {k : ClassId} {z j x : Int32} {vs : List Value} {dv : Value} (V : Arv Z h a k .int z vs dv) (hj : ¬ j < 0 ∧ j < z) (i : Nat) (hi : j.toNatClampNeg = i) (hl : i < vs.length)
    {g : JFrame} (hg : g.method = m) {rest : List Value} (hs : g.stack = .int x :: .int j :: .ref a :: rest) (hd : decode c.code g.pc = .ok (.iastore, 1))
    (r : ∀ T' h', Stand p l e R s m args below meth c T' (locs ++ [⟨a, j.toNatClampNeg⟩]) cells slots → T'.heap = h' → Wr h h' a j.toNatClampNeg (.int x) → Arv Z h' a k .int z (vs.set i (.int x)) dv → own_Run p e below Φ (T'.setTop { g with pc := g.pc + 1, stack := rest })) : own_Run p e below Φ (T.setTop g) := by
  obtain ⟨cl, A, q, S, N, H, G⟩ := V
  obtain ⟨T', h', X', e', W, st⟩ := stI X hx hZ eT A (j := j) (inb_of S hj) hg hs hd
  exact own_go st (r T' h' X' e' W (Arv.set A q S N H G rfl W i hi hl))
theorem own_lastore (X : Stand p l e R s m args below meth c T locs cells slots) (hx : p.tables.exec = Jvm.exec) (hZ : Z.Warmed39 s.vm) (eT : T.heap = h) {a : Addr} {k : ClassId} {z j : Int32} {x : Int64} {vs : List Value} {dv : Value} (V : Arv Z h a k .long z vs dv) (hj : ¬ j < 0 ∧ j < z) (i : Nat) (hi : j.toNatClampNeg = i) (hl : i < vs.length)
    {g : JFrame} (hg : g.method = m) {rest : List Value} (hs : g.stack = .long x :: .int j :: .ref a :: rest) (hd : decode c.code g.pc = .ok (.lastore, 1))
    (r : ∀ T' h', Stand p l e R s m args below meth c T' (locs ++ [⟨a, j.toNatClampNeg⟩]) cells slots → T'.heap = h' → Wr h h' a j.toNatClampNeg (.long x) → Arv Z h' a k .long z (vs.set i (.long x)) dv → own_Run p e below Φ (T'.setTop { g with pc := g.pc + 1, stack := rest })) : own_Run p e below Φ (T.setTop g) := by
  obtain ⟨cl, A, q, S, N, H, G⟩ := V
  obtain ⟨T', h', X', e', W, st⟩ := stJ X hx hZ eT A (j := j) (inb_of S hj) hg hs hd
  exact own_go st (r T' h' X' e' W (Arv.set A q S N H G rfl W i hi hl))
theorem own_bastore (X : Stand p l e R s m args below meth c T locs cells slots) (hx : p.tables.exec = Jvm.exec) (hZ : Z.Warmed39 s.vm) (eT : T.heap = h) {a : Addr} {k : ClassId} {z j x : Int32} {vs : List Value} {dv : Value} (V : Arv Z h a k .byte z vs dv) (hj : ¬ j < 0 ∧ j < z) (i : Nat) (hi : j.toNatClampNeg = i) (hl : i < vs.length)
    {g : JFrame} (hg : g.method = m) {rest : List Value} (hs : g.stack = .int x :: .int j :: .ref a :: rest) (hd : decode c.code g.pc = .ok (.bastore, 1))
    (r : ∀ T' h', Stand p l e R s m args below meth c T' (locs ++ [⟨a, j.toNatClampNeg⟩]) cells slots → T'.heap = h' → Wr h h' a j.toNatClampNeg (.int x.toInt8.toInt32) → Arv Z h' a k .byte z (vs.set i (.int x.toInt8.toInt32)) dv → own_Run p e below Φ (T'.setTop { g with pc := g.pc + 1, stack := rest })) : own_Run p e below Φ (T.setTop g) := by
  obtain ⟨cl, A, q, S, N, H, G⟩ := V
  obtain ⟨T', h', X', e', W, st⟩ := stB X hx hZ eT A (j := j) (inb_of S hj) hg hs hd
  exact own_go st (r T' h' X' e' W (Arv.set A q S N H G (fits_nar_byte _) W i hi hl))
theorem own_castore (X : Stand p l e R s m args below meth c T locs cells slots) (hx : p.tables.exec = Jvm.exec) (hZ : Z.Warmed39 s.vm) (eT : T.heap = h) {a : Addr} {k : ClassId} {z j x : Int32} {vs : List Value} {dv : Value} (V : Arv Z h a k .char z vs dv) (hj : ¬ j < 0 ∧ j < z) (i : Nat) (hi : j.toNatClampNeg = i) (hl : i < vs.length)
    {g : JFrame} (hg : g.method = m) {rest : List Value} (hs : g.stack = .int x :: .int j :: .ref a :: rest) (hd : decode c.code g.pc = .ok (.castore, 1))
    (r : ∀ T' h', Stand p l e R s m args below meth c T' (locs ++ [⟨a, j.toNatClampNeg⟩]) cells slots → T'.heap = h' → Wr h h' a j.toNatClampNeg (.int (nar .char x)) → Arv Z h' a k .char z (vs.set i (.int (nar .char x))) dv → own_Run p e below Φ (T'.setTop { g with pc := g.pc + 1, stack := rest })) : own_Run p e below Φ (T.setTop g) := by
  obtain ⟨cl, A, q, S, N, H, G⟩ := V
  obtain ⟨T', h', X', e', W, st⟩ := stC X hx hZ eT A (j := j) (inb_of S hj) hg hs hd
  exact own_go st (r T' h' X' e' W (Arv.set A q S N H G (fits_nar_char _) W i hi hl))
theorem own_newP (X : Stand p l e R s m args below meth c T locs cells slots) (hx : p.tables.exec = Jvm.exec) (hZ : Z.Warmed39 s.vm) {aty : ArrayType} (w : (Jvm.Cond.arrayClass (newarray.typeOf aty)).before a0 Z = true) (eT : T.heap = h) {g : JFrame} (hg : g.method = m) (hd : decode c.code g.pc = .ok (.newarray aty, 2)) {n : Int32} {rest : List Value} (hs : g.stack = .int n :: rest)
    (hn : ¬ n < 0) (cap : Nat) (hcap : n.toNatClampNeg ≤ cap) (hb : cap * 8 ≤ 536870912) (hc : cells + 1 ≤ R.cells) (hl : slots + cap ≤ R.slots) (N : Nat)
    (r : ∀ T' h' cA a, Stand p l e R s m args below meth c T' locs (cells + 1) (slots + cap) → T'.heap = h' → Ext h h' → a = h.size → Arv Z h' a cA (newarray.typeOf aty) n (List.replicate N (defaultValue (newarray.typeOf aty))) (defaultValue (newarray.typeOf aty)) → own_Run p e below Φ (T'.setTop { g with pc := g.pc + 2, stack := .ref a :: rest })) : own_Run p e below Φ (T.setTop g) := by
  obtain ⟨T', h', cA, X', e', E, A, st⟩ := newP X hx hZ w eT hg hd hs hn hcap hb hc hl
  have V := Arv.new A hn
  have q : ∀ i, (List.replicate N (defaultValue (newarray.typeOf aty))).getD i (defaultValue (newarray.typeOf aty)) = ([] : List Value).getD i (defaultValue (newarray.typeOf aty)) := pad_rep [] (defaultValue (newarray.typeOf aty)) N
  exact own_go st (r T' h' cA h.size X' e' E rfl (V.pad q))
theorem own_newRA (X : Stand p l e R s m args below meth c T locs cells slots) (hx : p.tables.exec = Jvm.exec) (hZ : Z.Warmed39 s.vm) {own C : String} {ty : FieldType} {index : Nat} (hown : s.vm.findClass own = some m.cls) (hC : (FieldType.array ty).toString = C) (w1 : (Jvm.Cond.classLink own index C).before a0 Z = true) (w2 : (Jvm.Cond.arrayOver (.array ty)).before a0 Z = true) (eT : T.heap = h) {g : JFrame} (hg : g.method = m) (hd : decode c.code g.pc = .ok (.anewarray index, 3)) {n : Int32} {rest : List Value} (hs : g.stack = .int n :: rest)
    (hn : ¬ n < 0) (cap : Nat) (hcap : n.toNatClampNeg ≤ cap) (hb : cap * 8 ≤ 536870912) (hc : cells + 1 ≤ R.cells) (hl : slots + cap ≤ R.slots) (N : Nat)
    (r : ∀ T' h' cA a, Stand p l e R s m args below meth c T' locs (cells + 1) (slots + cap) → T'.heap = h' → Ext h h' → a = h.size → Arv Z h' a cA (.array ty) n (List.replicate N .null) .null → OvrA Z cA ty C → own_Run p e below Φ (T'.setTop { g with pc := g.pc + 3, stack := .ref a :: rest })) : own_Run p e below Φ (T.setTop g) := by
  obtain ⟨T', h', cA, X', e', E, A, -, O, st⟩ := newRA X hx hZ hown hC w1 w2 eT hg hd hs hn hcap hb hc hl rfl
  have V := Arv.new A hn
  have q : ∀ i, (List.replicate N Value.null).getD i Value.null = ([] : List Value).getD i Value.null := pad_rep [] Value.null N
  exact own_go st (r T' h' cA h.size X' e' E rfl (V.pad q) O)
theorem own_newPE (X : Stand p l e R s m args below meth c T locs cells slots) (hx : p.tables.exec = Jvm.exec) (hZ : Z.Warmed39 s.vm) {aty : ArrayType} (w : (Jvm.Cond.arrayClass (newarray.typeOf aty)).before a0 Z = true) (eT : T.heap = h) {g : JFrame} (hg : g.method = m) (hd : decode c.code g.pc = .ok (.newarray aty, 2)) {n : Int32} {rest : List Value} (hs : g.stack = .int n :: rest)
    (hn : ¬ n < 0) (cap : Nat) (hcap : n.toNatClampNeg ≤ cap) (hb : cap * 8 ≤ 536870912) (hc : cells + 1 ≤ R.cells) (hl : slots + cap ≤ R.slots) (N : Nat) (ad : String) (had : "[" ++ (newarray.typeOf aty).toString = ad)
    (r : ∀ T' h' cA a, Stand p l e R s m args below meth c T' locs (cells + 1) (slots + cap) → T'.heap = h' → Ext h h' → a = h.size → Arv Z h' a cA (newarray.typeOf aty) n (List.replicate N (defaultValue (newarray.typeOf aty))) (defaultValue (newarray.typeOf aty)) → Exa Z h' a ad → own_Run p e below Φ (T'.setTop { g with pc := g.pc + 2, stack := .ref a :: rest })) : own_Run p e below Φ (T.setTop g) := by
  obtain ⟨T', h', cA, X', e', E, A, Ex, st⟩ := newPE X hx hZ w eT hg hd hs hn hcap hb hc hl had
  have V := Arv.new A hn
  have q : ∀ i, (List.replicate N (defaultValue (newarray.typeOf aty))).getD i (defaultValue (newarray.typeOf aty)) = ([] : List Value).getD i (defaultValue (newarray.typeOf aty)) := pad_rep [] (defaultValue (newarray.typeOf aty)) N
  exact own_go st (r T' h' cA h.size X' e' E rfl (V.pad q) Ex)
theorem own_aastore (X : Stand p l e R s m args below meth c T locs cells slots) (hx : p.tables.exec = Jvm.exec) (hZ : Z.Warmed39 s.vm) (eT : T.heap = h) {a y : Addr} {k : ClassId} {t0 : FieldType} {C C' : String} {z j : Int32} {vs : List Value} {dv : Value} (V : Arv Z h a k (.array t0) z vs dv) (O : OvrA Z k t0 C) (E : Exa Z h y C') (wc : (Jvm.Cond.castable C' C).before a0 Z = true) (hj : ¬ j < 0 ∧ j < z) (i : Nat) (hi : j.toNatClampNeg = i) (hl : i < vs.length)
    {g : JFrame} (hg : g.method = m) {rest : List Value} (hs : g.stack = .ref y :: .int j :: .ref a :: rest) (hd : decode c.code g.pc = .ok (.aastore, 1))
    (r : ∀ T' h', Stand p l e R s m args below meth c T' (locs ++ [⟨a, j.toNatClampNeg⟩]) cells slots → T'.heap = h' → Wr h h' a j.toNatClampNeg (.ref y) → Arv Z h' a k (.array t0) z (vs.set i (.ref y)) dv → own_Run p e below Φ (T'.setTop { g with pc := g.pc + 1, stack := rest })) : own_Run p e below Φ (T.setTop g) := by
  obtain ⟨cl, A, q, S, N, H, G⟩ := V
  obtain ⟨T', h', X', e', W, st⟩ := stR X hx hZ eT A (j := j) (inb_of S hj) rfl (Sto.ofVA A q O (Ins.of_exa E wc)) hg hs hd
  exact own_go st (r T' h' X' e' W (Arv.set A q S N H G rfl W i hi hl))
theorem own_aaload (X : Stand p l e R s m args below meth c T locs cells slots) (hx : p.tables.exec = Jvm.exec) (hZ : Z.Warmed39 s.vm) (eT : T.heap = h) {a : Addr} {k : ClassId} {ty : FieldType} {z j : Int32} {vs : List Value} {dv v : Value} (V : Arv Z h a k ty z vs dv) (hty : ty.isReference = true) (hj : ¬ j < 0 ∧ j < z) (hv : vs.getD j.toNatClampNeg dv = v)
    {g : JFrame} (hg : g.method = m) {rest : List Value} (hs : g.stack = .int j :: .ref a :: rest) (hd : decode c.code g.pc = .ok (.aaload, 1)) (r : own_Run p e below Φ (T.setTop { g with pc := g.pc + 1, stack := v :: rest })) : own_Run p e below Φ (T.setTop g) := by
  obtain ⟨cl, A, -, S, -, H, -⟩ := V
  exact own_go (fun t q => X.aaload hx (j := j) (v := v) (by rw [eT]; exact A.1) (State.isArrayOf_alike hZ.alike A.2.1) hty A.2.2 (inb_of S hj) (Has.at H (inb_of S hj) hv) hg hs hd t q) r
theorem own_le {a b c d : Nat} (h1 : a ≤ b) (h2 : b + c ≤ d) : a + c ≤ d := Nat.le_trans (Nat.add_le_add_right h1 c) h2
/-- the case's words on statics -/
theorem own_eqI {args : Array Value} {first s : State} {o : Option Outcome} {idx : List Nat} {t : Term} {k : Int32} (h : (Jvm.Cond.eq t (.int k)).value args first o s idx = some true) : t.eval args first o idx s = some (.int k) := by
  cases ht : t.eval args first o idx s with
  | none => simp [Cond.value, ht] at h
  | some x => cases x <;> simp [Cond.value, Term.eval, ht] at h ⊢; exact h
theorem own_fldI {args : Array Value} {t : Term} {x : Addr} {C n d : String} {k : Int32} (ht : t.eval args Z none [] Z = some (.ref x)) (h : (Jvm.Cond.eq (.field t C n d) (.int k)).value args Z none Z [] = some true) : Fld Z Z.heap x C n d (.int k) := Fld.start ((fld_at ht).symm.trans (own_eqI h))
end OwnRun
/-! a run whose body may load a literal: the tables may be other ones at its end -/
def own_FinW (s : State) (below : List Frame) (C D : Nat) (Q : Option Value → Heap → List Loc → Prop) (t : State) : Prop :=
  t.status = .running ∧ ∃ v L, Ended t below (.returned v) ∧ Q v t.heap L ∧ ReturnedEndW s (.returned v) t L C D
def own_MetW (l : Launch) (Z : State) (y : MethodName) (bytes : ByteArray) (maxL : Nat) (ret : Option FieldType) (rm : Room) (as : Array Value) (h : Heap) (Q : Option Value → Heap → List Loc → Prop) : Prop :=
  ∀ ws : List Jvm.Cond, MetFree l y (head1 (Jvm.Cond.code y bytes maxL ret :: ws) rm) (fun a U => a = as ∧ Z.Warmed39 U.vm ∧ U.heap = h) (fun _ _ _ _ _ => True) (fun _ U o U' => ∃ v L, o = .returned v ∧ Q v U'.heap L ∧ ReturnedEndW U o U' L rm.cells rm.slots)
section OwnWide
variable {p : Program} {l : Launch} {e : Env} {R : Room} {s : State} {m : MethodId} {args : Array Value} {below : List Frame} {meth : Method} {c : Code} {T : State} {locs : List Loc} {cells slots : Nat} {Φ : State → Prop} {S S' : State} {Z : State} {a0 : Array Value} {h : Heap} {vm0 : Vm} {k0 : Nat}
variable {C D : Nat} {Q : Option Value → Heap → List Loc → Prop}
theorem own_bodyW (r : own_Run p e below (own_FinW s below C D Q) S) :
    ∃ s₂ o, Steps p.tables e below S s₂ ∧ s₂.status = .running ∧ Ended s₂ below o ∧ ∃ v L, o = .returned v ∧ Q v s₂.heap L ∧ ReturnedEndW s o s₂ L C D := by
  obtain ⟨t, q1, q2, v, L, q3, q4, q5⟩ := r
  exact ⟨t, _, q1, q2, q3, v, L, rfl, q4, q5⟩
theorem own_reb (X : Stand p l e R s m args below meth c T locs cells slots) (hZ : Z.Warmed39 s.vm) {own : String} (hown : s.vm.findClass own = some m.cls) (eT : T.heap = h) :
    ∃ vm0 k0, Stand p l e R (s.setVm vm0) m args below meth c T locs cells slots ∧ Z.Warmed39 (s.setVm vm0).vm ∧ (s.setVm vm0).vm.findClass own = some m.cls ∧ s.Since vm0 k0 ∧ k0 ≤ h.size := by
  have hS := X.warmed.since T.heap.size
  exact ⟨T.vm, T.heap.size, X.retabled X.warmed.wide, wtrans hZ X.warmed, by rw [show (s.setVm T.vm).vm = T.vm from rfl, hS.1.alike.findClass]; exact hown, hS, by rw [eT]; exact Nat.le_refl _⟩
theorem own_retIW (X : Stand p l e R (s.setVm vm0) m args below meth c T locs cells slots) (hx : p.tables.exec = Jvm.exec) (hret : meth.sig.returnType = some .int) (hlk : meth.locks = false) {pc : Nat} {Ls : Array Slot} {z : Int32} {rest : List Value} (hd : decode c.code pc = .ok (.ireturn, 1)) (eT : T.heap = h) (hS : s.Since vm0 k0) (hk : k0 ≤ h.size) (hq : Q (some (.int z)) h locs) (hc : cells ≤ C) (hs : slots ≤ D) :
    own_Run p e below (own_FinW s below C D Q) (T.setTop (mkF m pc Ls (.int z :: rest))) := by
  obtain ⟨fs, hr, hrun, hended, hR⟩ := X.leaveW hS (by rw [eT]; exact hk) (v := some (.int z)) (fun q => by rw [hret] at q; cases q) hlk
  exact ⟨_, retI X hx hret hd hr, hrun, _, _, hended, by show Q _ T.heap _; rw [eT]; exact hq, ⟨_, rfl⟩, hR.2.1, hR.2.2.1, hR.2.2.2.mono hc hs⟩
theorem own_retNW (X : Stand p l e R (s.setVm vm0) m args below meth c T locs cells slots) (hx : p.tables.exec = Jvm.exec) {t : FieldType} (hret : meth.sig.returnType = some t) (ht : t = .boolean ∨ t = .byte ∨ t = .char ∨ t = .short) (hlk : meth.locks = false) {pc : Nat} {Ls : Array Slot} {z : Int32} {rest : List Value} (hd : decode c.code pc = .ok (.ireturn, 1)) (eT : T.heap = h) (hS : s.Since vm0 k0) (hk : k0 ≤ h.size) (hq : Q (some (.int (nar t z))) h locs) (hc : cells ≤ C) (hs : slots ≤ D) :
    own_Run p e below (own_FinW s below C D Q) (T.setTop (mkF m pc Ls (.int z :: rest))) := by
  obtain ⟨fs, hr, hrun, hended, hR⟩ := X.leaveW hS (by rw [eT]; exact hk) (v := some (.int (nar t z))) (fun q => by rw [hret] at q; cases q) hlk
  exact ⟨_, retN X hx hret ht hd hr, hrun, _, _, hended, by show Q _ T.heap _; rw [eT]; exact hq, ⟨_, rfl⟩, hR.2.1, hR.2.2.1, hR.2.2.2.mono hc hs⟩
theorem own_retVW (X : Stand p l e R (s.setVm vm0) m args below meth c T locs cells slots) (hx : p.tables.exec = Jvm.exec) (hret : meth.sig.returnType = none) (hlk : meth.locks = false) {pc : Nat} {Ls : Array Slot} (hd : decode c.code pc = .ok (.return_, 1)) (eT : T.heap = h) (hS : s.Since vm0 k0) (hk : k0 ≤ h.size) (hq : Q none h locs) (hc : cells ≤ C) (hs : slots ≤ D) :
    own_Run p e below (own_FinW s below C D Q) (T.setTop (mkF m pc Ls [])) := by
  obtain ⟨fs, hr, hrun, hended, hR⟩ := X.leaveW hS (by rw [eT]; exact hk) (v := none) (fun _ => rfl) hlk
  exact ⟨_, X.returnOut hx hret hd hr, hrun, _, _, hended, by show Q _ T.heap _; rw [eT]; exact hq, ⟨_, rfl⟩, hR.2.1, hR.2.2.1, hR.2.2.2.mono hc hs⟩
theorem own_retOW (X : Stand p l e R (s.setVm vm0) m args below meth c T locs cells slots) (hx : p.tables.exec = Jvm.exec) {t : FieldType} {i : Instr} {w : Value} (hret : meth.sig.returnType = some t) (hn : narrow t w = w)
    (hi : (i = .ireturn ∧ (t = .int ∨ t = .boolean ∨ t = .byte ∨ t = .char ∨ t = .short) ∧ ∃ z, w = .int z) ∨ (i = .lreturn ∧ t = .long ∧ ∃ z, w = .long z) ∨ (i = .dreturn ∧ t = .double ∧ ∃ z, w = .double z) ∨ (i = .freturn ∧ t = .float ∧ ∃ z, w = .float z) ∨ (i = .areturn ∧ t.isReference = true ∧ w.isRef = true))
    (hlk : meth.locks = false) {pc : Nat} {Ls : Array Slot} {rest : List Value} (hd : decode c.code pc = .ok (i, 1)) (eT : T.heap = h) (hS : s.Since vm0 k0) (hk : k0 ≤ h.size) (hq : Q (some w) h locs) (hc : cells ≤ C) (hs : slots ≤ D) :
    own_Run p e below (own_FinW s below C D Q) (T.setTop (mkF m pc Ls (w :: rest))) := by
  obtain ⟨fs, hr, hrun, hended, hR⟩ := X.leaveW hS (by rw [eT]; exact hk) (v := some w) (fun q => by rw [hret] at q; cases q) hlk
  exact ⟨_, retOut X hx hret hn hi hd hr, hrun, _, _, hended, by show Q _ T.heap _; rw [eT]; exact hq, ⟨_, rfl⟩, hR.2.1, hR.2.2.1, hR.2.2.2.mono hc hs⟩
def own_BkW (l : Launch) (R : Room) (p : Program) (e : Env) (below : List Frame) (s : State) (args : Array Value) (y : MethodName) (W : Nat) (as : Array Value) (h : Heap) (cc ss : Nat) (Q : Option Value → Heap → List Loc → Prop) : Prop :=
  BackS l R p e below s args y 3 W (fun A a => a = as ∧ A.U.heap = h ∧ A.cells + cc ≤ R.cells ∧ A.slots + ss ≤ R.slots) (fun A _ v B => ∃ L, Q v B.U.heap L ∧ B.locs = A.locs ++ L ∧ B.cells = A.cells + cc ∧ B.slots = A.slots + ss)
theorem own_bkW {y : MethodName} {bytes : ByteArray} {maxL : Nat} {ret : Option FieldType} {rm : Room} {W : Nat} {as : Array Value} (hM : own_MetW l Z y bytes maxL ret rm as h Q) (hZ : Z.Warmed39 s.vm) (wc : (Jvm.Cond.code y bytes maxL ret).before a0 Z = true) (wz : (Jvm.Cond.initialized y.cls).before a0 Z = true) (hf : rm.frames + 1 ≤ R.frames) (hl : W + (maxL + 11) + rm.locals ≤ R.locals) :
    own_BkW l R p e below s args y W as h rm.cells rm.slots Q := backOfS (W := W) (hM []) hZ wc wz hf hl
/-- a static method that may load a literal -/
theorem own_callSW (X : Stand p l e R (s.setVm vm0) m args below meth c T locs cells slots) (hx : p.tables.exec = Jvm.exec) (hZ : Z.Warmed39 (s.setVm vm0).vm) {own : String} {index : Nat} {y : MethodName} {bytes : ByteArray} {maxL : Nat} {ret : Option FieldType} {cc ss : Nat}
    (hown : (s.setVm vm0).vm.findClass own = some m.cls) (hS : s.Since vm0 k0) (hk : k0 ≤ h.size) (w1 : (Jvm.Cond.methodLink own index y).before a0 Z = true) (w2 : (Jvm.Cond.static y).before a0 Z = true) (w3 : (Jvm.Cond.initialized y.cls).before a0 Z = true) (w4 : (Jvm.Cond.code y bytes maxL ret).before a0 Z = true)
    (hy : y.cls ≠ "java/lang/invoke/MethodHandle" ∧ y.cls ≠ "java/lang/invoke/VarHandle") {W : Nat} {argsL rest : List Value} (hK : own_BkW l R p e below (s.setVm vm0) args y W argsL.toArray h cc ss Q) (eT : T.heap = h)
    {g : JFrame} (hg : g.method = m) (hsize : g.locals.size = c.maxLocals) (hlen : ∀ sig, parseMethodDescriptor y.desc = some sig → argsL.length = sig.parameters.length)
    (hstack : g.stack = argsL.reverse ++ rest) (hW : 2 * g.monitorRoom + (rest.map fun v => v.category).sum ≤ W) (hdg : decode c.code g.pc = .ok (.invokestatic index, 3))
    (hcl : cells + cc ≤ R.cells) (hsl : slots + ss ≤ R.slots)
    (k : ∀ v T' h' L vm1 k1, Stand p l e R (s.setVm vm1) m args below meth c T' (locs ++ L) (cells + cc) (slots + ss) → T'.heap = h' → Z.Warmed39 (s.setVm vm1).vm → (s.setVm vm1).vm.findClass own = some m.cls → s.Since vm1 k1 → k1 ≤ h'.size → Q v h' L → own_Run p e below Φ (T'.setTop { g with pc := g.pc + 3, stack := v.toList ++ rest })) : own_Run p e below Φ (T.setTop g) := by
  obtain ⟨v, _, ⟨T', L', k', n'⟩, -, X', hS2, hgr, ⟨Lc, hQ, l1, y1, z1⟩, st⟩ := callSS X hx (y := y) hown (mvT hZ w1) (mvT hZ w2) (mvT hZ w3) (mvT hZ w4) hy hK hg hsize hlen hstack hW hdg (fun _ _ => ⟨rfl, eT, hcl, hsl⟩)
  dsimp only [Pt.U, Pt.locs, Pt.cells, Pt.slots] at X' l1 y1 z1 st hQ hS2 hgr
  subst l1 y1 z1
  exact own_via st (k v T' _ Lc _ _ X' rfl (State.Warmed39.trans (t := s.setVm vm0) hZ hS2.1) (by rw [show (s.setVm T'.vm).vm = T'.vm from rfl, hS2.1.alike.findClass]; exact hown) (foldS hS (by rw [eT]; exact hk) hS2 hgr) (Nat.le_refl _) hQ)
/-- a constructor that may load a literal -/
theorem own_callIW (X : Stand p l e R (s.setVm vm0) m args below meth c T locs cells slots) (hx : p.tables.exec = Jvm.exec) (hZ : Z.Warmed39 (s.setVm vm0).vm) {own : String} {index : Nat} {y : MethodName} {bytes : ByteArray} {maxL : Nat} {cc ss : Nat} (hy1 : y.name = "<init>")
    (hown : (s.setVm vm0).vm.findClass own = some m.cls) (hS : s.Since vm0 k0) (hk : k0 ≤ h.size) (w1 : (Jvm.Cond.methodLink own index y).before a0 Z = true) (w2 : (Jvm.Cond.instanceMethod y).before a0 Z = true) (w4 : (Jvm.Cond.code y bytes maxL none).before a0 Z = true)
    (hy : y.cls ≠ "java/lang/invoke/MethodHandle" ∧ y.cls ≠ "java/lang/invoke/VarHandle") {W : Nat} {a : Addr} {argsL rest : List Value} (hK : own_BkW l R p e below (s.setVm vm0) args y W (.ref a :: argsL).toArray h cc ss Q) (eT : T.heap = h)
    {g : JFrame} (hg : g.method = m) (hsize : g.locals.size = c.maxLocals) (hlen : ∀ sig, parseMethodDescriptor y.desc = some sig → argsL.length = sig.parameters.length)
    (hstack : g.stack = argsL.reverse ++ .ref a :: rest) (hW : 2 * g.monitorRoom + (rest.map fun v => v.category).sum ≤ W) (hdg : decode c.code g.pc = .ok (.invokespecial index, 3))
    (hcl : cells + cc ≤ R.cells) (hsl : slots + ss ≤ R.slots)
    (k : ∀ v T' h' L vm1 k1, Stand p l e R (s.setVm vm1) m args below meth c T' (locs ++ L) (cells + cc) (slots + ss) → T'.heap = h' → Z.Warmed39 (s.setVm vm1).vm → (s.setVm vm1).vm.findClass own = some m.cls → s.Since vm1 k1 → k1 ≤ h'.size → Q v h' L → own_Run p e below Φ (T'.setTop { g with pc := g.pc + 3, stack := v.toList ++ rest })) : own_Run p e below Φ (T.setTop g) := by
  obtain ⟨v, _, ⟨T', L', k', n'⟩, -, X', hS2, hgr, ⟨Lc, hQ, l1, y1, z1⟩, st⟩ := X.specialBackS hx (y := y) hy1 hown (mvT hZ w1) (mvT hZ w2) (mvT hZ w4) hy hK hg hsize (Steps.refl _) (a := a) hlen hstack hW hdg (fun _ _ => ⟨rfl, eT, hcl, hsl⟩)
  dsimp only [Pt.U, Pt.locs, Pt.cells, Pt.slots] at X' l1 y1 z1 st hQ hS2 hgr
  subst l1 y1 z1
  exact own_via st (k v T' _ Lc _ _ X' rfl (State.Warmed39.trans (t := s.setVm vm0) hZ hS2.1) (by rw [show (s.setVm T'.vm).vm = T'.vm from rfl, hS2.1.alike.findClass]; exact hown) (foldS hS (by rw [eT]; exact hk) hS2 hgr) (Nat.le_refl _) hQ)
/-- a literal that nobody reads -/
theorem own_ldcS (X : Stand p l e R (s.setVm vm0) m args below meth c T locs cells slots) (hx : p.tables.exec = Jvm.exec) (hZ : Z.Warmed39 (s.setVm vm0).vm) {own text : String} {index : Nat} (hown : (s.setVm vm0).vm.findClass own = some m.cls) (hS : s.Since vm0 k0) (hk : k0 ≤ h.size) (w : (Jvm.Cond.stringLink own index text).before a0 Z = true) (wS : ∀ a ∈ Bundle.stringAtoms, a.before a0 Z = true)
    (eT : T.heap = h) {g : JFrame} (hg : g.method = m) (hd : decode c.code g.pc = .ok (.ldc index, 2)) (n : Nat) (hn : 4 * text.toList.length ≤ n) (hbig : n ≤ 536870912) (hc : cells + 2 ≤ R.cells) (hl : slots + (n + 4) ≤ R.slots)
    (r : ∀ a T' h' vm1 k1, Stand p l e R (s.setVm vm1) m args below meth c T' locs (cells + 2) (slots + (n + 4)) → T'.heap = h' → Ext h h' → Z.Warmed39 (s.setVm vm1).vm → (s.setVm vm1).vm.findClass own = some m.cls → s.Since vm1 k1 → k1 ≤ h'.size → own_Run p e below Φ (T'.setTop { g with pc := g.pc + 2, stack := .ref a :: g.stack })) : own_Run p e below Φ (T.setTop g) := by
  obtain ⟨a, T', h', k1, X', e', E, hS', hk', hZ', hown', st⟩ := ldcS X hx hZ hown w wS eT hS hk hg hd hn hbig hc hl
  exact own_go st (r a T' h' _ k1 X' e' E hZ' hown' hS' hk')
end OwnWide
theorem own_sa : ∀ d ∈ Bundle.stringAtoms, d ∈ tables_1 := by decide +kernel
def own_blk (x : Int32) : Int32 := if x = (32 : Int32) then (1 : Int32) else if x = (9 : Int32) then (1 : Int32) else (0 : Int32)
def own_dr (x : Int32) : Int32 := if (x &&& (3 : Int32)) = (0 : Int32) then (32 : Int32) else if (x &&& (3 : Int32)) = (1 : Int32) then (9 : Int32) else if (x &&& (3 : Int32)) = (2 : Int32) then (35 : Int32) else nar .char ((((x.toUInt32 >>> ((2 : Int32) &&& 31).toUInt32).toInt32) &&& (255 : Int32)).toUInt32.toUInt16.toUInt32.toInt32)
def own_fd (y0 y1 y2 : Int32) : Int32 := (if (own_blk y0) = (0 : Int32) then (if y0 = (35 : Int32) then (0 : Int32) else (1 : Int32)) else (if (own_blk y1) = (0 : Int32) then (if y1 = (35 : Int32) then (0 : Int32) else (1 : Int32)) else (if (own_blk y2) = (0 : Int32) then (if y2 = (35 : Int32) then (0 : Int32) else (1 : Int32)) else (0 : Int32))))
def own_es (y0 y1 y2 : Int32) : Int32 := (if (own_blk y0) = (0 : Int32) then (if y0 = (35 : Int32) then (3 : Int32) else (0 : Int32)) else (if (own_blk y1) = (0 : Int32) then (if y1 = (35 : Int32) then (3 : Int32) else (1 : Int32)) else (if (own_blk y2) = (0 : Int32) then (if y2 = (35 : Int32) then (3 : Int32) else (2 : Int32)) else (3 : Int32))))
def own_ee (y0 y1 y2 : Int32) : Int32 := (if (own_blk y0) = (0 : Int32) then (if y0 = (35 : Int32) then (3 : Int32) else (if (own_blk y1) = (0 : Int32) then (if (own_blk y2) = (0 : Int32) then (3 : Int32) else (2 : Int32)) else (1 : Int32))) else (if (own_blk y1) = (0 : Int32) then (if y1 = (35 : Int32) then (3 : Int32) else (if (own_blk y2) = (0 : Int32) then (3 : Int32) else (2 : Int32))) else (if (own_blk y2) = (0 : Int32) then (if y2 = (35 : Int32) then (3 : Int32) else (3 : Int32)) else (3 : Int32))))
theorem own_nc {x : Int32} (h : 0 ≤ x.toInt ∧ x.toInt ≤ 255) : nar .char x = x := by
  show x.toUInt32.toUInt16.toUInt32.toInt32 = x
  have q := c_i2c x; apply Int32.toInt_inj.mp; omega
theorem own_drr (x : Int32) : 0 ≤ (nar .char (own_dr x)).toInt ∧ (nar .char (own_dr x)).toInt ≤ 255 := by
  have m := c_mask ((x.toUInt32 >>> ((2 : Int32) &&& 31).toUInt32).toInt32) 255 8 (by decide) (by decide)
  generalize hw_ : (((x.toUInt32 >>> ((2 : Int32) &&& 31).toUInt32).toInt32) &&& (255 : Int32)) = w at m
  have w0 : 0 ≤ w.toInt ∧ w.toInt ≤ 255 := by omega
  have e : w.toUInt32.toUInt16.toUInt32.toInt32 = w := own_nc w0
  unfold own_dr
  split
  · decide
  · split
    · decide
    · split
      · decide
      · rw [hw_, e, own_nc w0, own_nc w0]; exact w0
theorem own_rg {x : Int32} (h : 0 ≤ x.toInt ∧ x.toInt ≤ 255) : ¬ x < 0 ∧ ¬ (255 : Int32) < x := by
  simp only [Int32.lt_iff_toInt_lt, Int32.reduceToInt]; omega
theorem own_by {x : Int32} (h : 0 ≤ x.toInt ∧ x.toInt ≤ 255) : nar .char ((x.toInt8.toInt32 &&& (255 : Int32)).toUInt32.toUInt16.toUInt32.toInt32) = x := by
  have q := c_i2b x; have m := c_mask x.toInt8.toInt32 255 8 (by decide) (by decide)
  have e : x.toInt8.toInt32 &&& (255 : Int32) = x := by apply Int32.toInt_inj.mp; omega
  rw [e]; have e2 := own_nc h; rw [show x.toUInt32.toUInt16.toUInt32.toInt32 = x from e2, e2]
theorem own_l12 {x : Int32} (h : x < (1 : Int32)) : x < (2 : Int32) := by simp only [Int32.lt_iff_toInt_lt, Int32.reduceToInt] at *; omega
theorem own_l13 {x : Int32} (h : x < (1 : Int32)) : x < (3 : Int32) := by simp only [Int32.lt_iff_toInt_lt, Int32.reduceToInt] at *; omega
theorem own_l23 {x : Int32} (h : x < (2 : Int32)) : x < (3 : Int32) := by simp only [Int32.lt_iff_toInt_lt, Int32.reduceToInt] at *; omega
theorem d1_0 : decode method_2_code 0 = .ok (.iload_n 0, 1) := by decide +kernel
theorem d1_1 : decode method_2_code 1 = .ok (.iconst 3, 1) := by decide +kernel
theorem d1_2 : decode method_2_code 2 = .ok (.iand, 1) := by decide +kernel
theorem d1_3 : decode method_2_code 3 = .ok (.istore_n 1, 1) := by decide +kernel
theorem d1_4 : decode method_2_code 4 = .ok (.iload_n 1, 1) := by decide +kernel
theorem d1_5 : decode method_2_code 5 = .ok (.ifCond .ne 6, 3) := by decide +kernel
theorem d1_8 : decode method_2_code 8 = .ok (.bipush 32, 2) := by decide +kernel
theorem d1_10 : decode method_2_code 10 = .ok (.ireturn, 1) := by decide +kernel
theorem d1_11 : decode method_2_code 11 = .ok (.iload_n 1, 1) := by decide +kernel
theorem d1_12 : decode method_2_code 12 = .ok (.iconst 1, 1) := by decide +kernel
theorem d1_13 : decode method_2_code 13 = .ok (.if_icmp .ne 6, 3) := by decide +kernel
theorem d1_16 : decode method_2_code 16 = .ok (.bipush 9, 2) := by decide +kernel
theorem d1_18 : decode method_2_code 18 = .ok (.ireturn, 1) := by decide +kernel
theorem d1_19 : decode method_2_code 19 = .ok (.iload_n 1, 1) := by decide +kernel
theorem d1_20 : decode method_2_code 20 = .ok (.iconst 2, 1) := by decide +kernel
theorem d1_21 : decode method_2_code 21 = .ok (.if_icmp .ne 6, 3) := by decide +kernel
theorem d1_24 : decode method_2_code 24 = .ok (.bipush 35, 2) := by decide +kernel
theorem d1_26 : decode method_2_code 26 = .ok (.ireturn, 1) := by decide +kernel
theorem d1_27 : decode method_2_code 27 = .ok (.iload_n 0, 1) := by decide +kernel
theorem d1_28 : decode method_2_code 28 = .ok (.iconst 2, 1) := by decide +kernel
theorem d1_29 : decode method_2_code 29 = .ok (.iushr, 1) := by decide +kernel
theorem d1_30 : decode method_2_code 30 = .ok (.sipush 255, 3) := by decide +kernel
theorem d1_33 : decode method_2_code 33 = .ok (.iand, 1) := by decide +kernel
theorem d1_34 : decode method_2_code 34 = .ok (.i2c, 1) := by decide +kernel
theorem d1_35 : decode method_2_code 35 = .ok (.ireturn, 1) := by decide +kernel
theorem pn_c0 : plainName "com/example/profitmine/profitmine/io/FieldsWalkPinLaw" = true := by first | (simp [plainName, overriddenIn]; done) | decide +kernel
theorem ef_1_I (m : MethodId) (x0 : Int32) : entryFrame m #[(.int x0)] 2 = mkF m 0 #[.val (.int x0), .unset] [] := by first | (simp [entryFrame, mkF, argsToLocals, Value.category]; done) | rfl
set_option maxRecDepth 65536 in
set_option maxHeartbeats 40000000 in
theorem rm_dr (l : Launch) (Z : State) (a0 : Array Value) (hw : ∀ d ∈ tables_1, d.before a0 Z = true) (p1 : Int32) (h0 : Heap) (n0 : Nat)  :
    own_Met l Z (⟨"com/example/profitmine/profitmine/io/FieldsWalkPinLaw", "draw", "(I)C"⟩ : MethodName) method_2_code 2 (some .char) ({ frames := 0, cells := 0, slots := 0, locals := 0 } : Room) #[(.int p1)] h0 (fun v h L => v = some (.int (own_dr p1)) ∧ Fr n0 L ∧ h = h0) := by
  intro ws
  refine MetFree.of_bodySF (plainFor_of_name pn_c0) hisR ?_
  intro p e s m args below meth c s₁ Bd hml0 hP hK
  obtain ⟨rfl, hZ, hh⟩ := hP
  have hx := Bd.exec
  have hby := Bd.bytes
  have hml : c.maxLocals = 2 := hml0
  have hown : s.vm.findClass "com/example/profitmine/profitmine/io/FieldsWalkPinLaw" = some m.cls := findClass_of_methodNamed Bd.named
  have hnm := (name_of_methodNamed Bd.named Bd.method).1
  have hlk : meth.locks = false := Bd.notSynchronized
  have X0 : Stand p l e ({ frames := 0, cells := 0, slots := 0, locals := 0 } : Room) s m #[(.int p1)] below meth c s₁ [] 0 0 := Stand.of_body Bd
  have e0 : s₁.heap = h0 := by rw [← hh, Bd.state]; rfl
  have N0 := Fr.nil n0
  refine own_body (Q := fun v h L => v = some (.int (own_dr p1)) ∧ Fr n0 L ∧ h = h0) ?_
  generalize hΦ : own_Fin s below _ _ _ = Φ
  refine own_cast (ef_1_I m p1) ?_
  show own_Run p e below Φ (s₁.setTop (mkF m 0 #[.val (.int p1), .unset] []))
  refine own_go (fun t k => XS.iloadN X0.here hx rfl (hb hby d1_0) rfl  k) ?_
  refine own_go (fun t k => XS.iconst X0.here hx rfl (hb hby d1_1) k) ?_
  refine own_go (fun t k => XS.iand X0.here hx rfl (hb hby d1_2) rfl k) ?_
  refine own_go (fun t k => XS.istoreN X0.here hx rfl (hb hby d1_3) rfl (l' := #[.val (.int p1), .val (.int (p1 &&& (3 : Int32)))]) rfl k) ?_
  refine own_go (fun t k => XS.iloadN X0.here hx rfl (hb hby d1_4) rfl  k) ?_
  by_cases hc5 : (p1 &&& (3 : Int32)) = (0 : Int32)
  · refine own_go (fun t k => XS.ifNo X0.here hx rfl (hb hby d1_5) rfl ((if0 _ _).trans (teq hc5).2) k) ?_
    refine own_go (fun t k => XS.bipush X0.here hx rfl (hb hby d1_8) k) ?_
    subst hΦ
    exact own_retN X0 hx (t := .char) Bd.returns (by simp) hlk (hb hby d1_10) e0 ⟨(by unfold own_dr; rw [if_pos hc5]; first | done | rfl), N0, rfl⟩ (by decide) (by decide)
  · refine own_go (fun t k => XS.ifYes X0.here hx rfl (pc0 := 5) (pc' := 11) rfl (hb hby d1_5) rfl ((if0 _ _).trans (feq hc5).2) (by decide) (by decide) k) ?_
    refine own_go (fun t k => XS.iloadN X0.here hx rfl (hb hby d1_11) rfl  k) ?_
    show own_Run p e below Φ (s₁.setTop (mkF m 12 #[.val (.int p1), .val (.int (p1 &&& (3 : Int32)))] [(.int (p1 &&& (3 : Int32)))]))
    refine own_go (fun t k => XS.iconst X0.here hx rfl (hb hby d1_12) k) ?_
    by_cases hc13 : (p1 &&& (3 : Int32)) = (1 : Int32)
    · refine own_go (fun t k => XS.icmpNo X0.here hx rfl (hb hby d1_13) rfl (teq hc13).2 k) ?_
      refine own_go (fun t k => XS.bipush X0.here hx rfl (hb hby d1_16) k) ?_
      subst hΦ
      exact own_retN X0 hx (t := .char) Bd.returns (by simp) hlk (hb hby d1_18) e0 ⟨(by unfold own_dr; rw [if_neg hc5, if_pos hc13]; first | done | rfl), N0, rfl⟩ (by decide) (by decide)
    · refine own_go (fun t k => XS.icmpYes X0.here hx rfl (pc0 := 13) (pc' := 19) rfl (hb hby d1_13) rfl (feq hc13).2 (by decide) (by decide) k) ?_
      refine own_go (fun t k => XS.iloadN X0.here hx rfl (hb hby d1_19) rfl  k) ?_
      refine own_go (fun t k => XS.iconst X0.here hx rfl (hb hby d1_20) k) ?_
      by_cases hc21 : (p1 &&& (3 : Int32)) = (2 : Int32)
      · refine own_go (fun t k => XS.icmpNo X0.here hx rfl (hb hby d1_21) rfl (teq hc21).2 k) ?_
        refine own_go (fun t k => XS.bipush X0.here hx rfl (hb hby d1_24) k) ?_
        subst hΦ
        exact own_retN X0 hx (t := .char) Bd.returns (by simp) hlk (hb hby d1_26) e0 ⟨(by unfold own_dr; rw [if_neg hc5, if_neg hc13, if_pos hc21]; first | done | rfl), N0, rfl⟩ (by decide) (by decide)
      · refine own_go (fun t k => XS.icmpYes X0.here hx rfl (pc0 := 21) (pc' := 27) rfl (hb hby d1_21) rfl (feq hc21).2 (by decide) (by decide) k) ?_
        show own_Run p e below Φ (s₁.setTop (mkF m 27 #[.val (.int p1), .val (.int (p1 &&& (3 : Int32)))] []))
        refine own_go (fun t k => XS.iloadN X0.here hx rfl (hb hby d1_27) rfl  k) ?_
        refine own_go (fun t k => XS.iconst X0.here hx rfl (hb hby d1_28) k) ?_
        refine own_go (fun t k => XS.iushr X0.here hx rfl (hb hby d1_29) rfl k) ?_
        refine own_go (fun t k => XS.sipush X0.here hx rfl (hb hby d1_30) k) ?_
        refine own_go (fun t k => XS.iand X0.here hx rfl (hb hby d1_33) rfl k) ?_
        refine own_go (fun t k => XS.i2c X0.here hx rfl (hb hby d1_34) rfl k) ?_
        subst hΦ
        exact own_retN X0 hx (t := .char) Bd.returns (by simp) hlk (hb hby d1_35) e0 ⟨(by unfold own_dr; rw [if_neg hc5, if_neg hc13, if_neg hc21]; first | done | rfl), N0, rfl⟩ (by decide) (by decide)
theorem d22_0 : decode method_3_code 0 = .ok (.iload_n 0, 1) := by decide +kernel
theorem d22_1 : decode method_3_code 1 = .ok (.bipush 32, 2) := by decide +kernel
theorem d22_3 : decode method_3_code 3 = .ok (.if_icmp .eq 9, 3) := by decide +kernel
theorem d22_6 : decode method_3_code 6 = .ok (.iload_n 0, 1) := by decide +kernel
theorem d22_7 : decode method_3_code 7 = .ok (.bipush 9, 2) := by decide +kernel
theorem d22_9 : decode method_3_code 9 = .ok (.if_icmp .ne 7, 3) := by decide +kernel
theorem d22_12 : decode method_3_code 12 = .ok (.iconst 1, 1) := by decide +kernel
theorem d22_13 : decode method_3_code 13 = .ok (.goto 4, 3) := by decide +kernel
theorem d22_16 : decode method_3_code 16 = .ok (.iconst 0, 1) := by decide +kernel
theorem d22_17 : decode method_3_code 17 = .ok (.ireturn, 1) := by decide +kernel
theorem ef_22_I (m : MethodId) (x0 : Int32) : entryFrame m #[(.int x0)] 1 = mkF m 0 #[.val (.int x0)] [] := by first | (simp [entryFrame, mkF, argsToLocals, Value.category]; done) | rfl
set_option maxRecDepth 65536 in
set_option maxHeartbeats 40000000 in
theorem rm_bl (l : Launch) (Z : State) (a0 : Array Value) (hw : ∀ d ∈ tables_1, d.before a0 Z = true) (p1 : Int32) (h0 : Heap) (n0 : Nat)  :
    own_Met l Z (⟨"com/example/profitmine/profitmine/io/FieldsWalkPinLaw", "blank", "(C)Z"⟩ : MethodName) method_3_code 1 (some .boolean) ({ frames := 0, cells := 0, slots := 0, locals := 0 } : Room) #[(.int p1)] h0 (fun v h L => v = some (.int (own_blk p1)) ∧ Fr n0 L ∧ h = h0) := by
  intro ws
  refine MetFree.of_bodySF (plainFor_of_name pn_c0) hisR ?_
  intro p e s m args below meth c s₁ Bd hml0 hP hK
  obtain ⟨rfl, hZ, hh⟩ := hP
  have hx := Bd.exec
  have hby := Bd.bytes
  have hml : c.maxLocals = 1 := hml0
  have hown : s.vm.findClass "com/example/profitmine/profitmine/io/FieldsWalkPinLaw" = some m.cls := findClass_of_methodNamed Bd.named
  have hnm := (name_of_methodNamed Bd.named Bd.method).1
  have hlk : meth.locks = false := Bd.notSynchronized
  have X0 : Stand p l e ({ frames := 0, cells := 0, slots := 0, locals := 0 } : Room) s m #[(.int p1)] below meth c s₁ [] 0 0 := Stand.of_body Bd
  have e0 : s₁.heap = h0 := by rw [← hh, Bd.state]; rfl
  have N0 := Fr.nil n0
  refine own_body (Q := fun v h L => v = some (.int (own_blk p1)) ∧ Fr n0 L ∧ h = h0) ?_
  generalize hΦ : own_Fin s below _ _ _ = Φ
  refine own_cast (ef_22_I m p1) ?_
  show own_Run p e below Φ (s₁.setTop (mkF m 0 #[.val (.int p1)] []))
  refine own_go (fun t k => XS.iloadN X0.here hx rfl (hb hby d22_0) rfl  k) ?_
  refine own_go (fun t k => XS.bipush X0.here hx rfl (hb hby d22_1) k) ?_
  by_cases hc3 : p1 = (32 : Int32)
  · refine own_go (fun t k => XS.icmpYes X0.here hx rfl (pc0 := 3) (pc' := 12) rfl (hb hby d22_3) rfl (teq hc3).1 (by decide) (by decide) k) ?_
    refine own_go (fun t k => XS.iconst X0.here hx rfl (hb hby d22_12) k) ?_
    refine own_go (fun t k => XS.goto X0.here hx rfl (pc0 := 13) (pc' := 17) rfl (hb hby d22_13) (by decide) (by decide) k) ?_
    subst hΦ
    exact own_retN X0 hx (t := .boolean) Bd.returns (by simp) hlk (hb hby d22_17) e0 ⟨(by unfold own_blk; rw [if_pos hc3]; first | done | rfl), N0, rfl⟩ (by decide) (by decide)
  · refine own_go (fun t k => XS.icmpNo X0.here hx rfl (hb hby d22_3) rfl (feq hc3).1 k) ?_
    refine own_go (fun t k => XS.iloadN X0.here hx rfl (hb hby d22_6) rfl  k) ?_
    refine own_go (fun t k => XS.bipush X0.here hx rfl (hb hby d22_7) k) ?_
    by_cases hc9 : p1 = (9 : Int32)
    · refine own_go (fun t k => XS.icmpNo X0.here hx rfl (hb hby d22_9) rfl (teq hc9).2 k) ?_
      show own_Run p e below Φ (s₁.setTop (mkF m 12 #[.val (.int p1)] []))
      refine own_go (fun t k => XS.iconst X0.here hx rfl (hb hby d22_12) k) ?_
      refine own_go (fun t k => XS.goto X0.here hx rfl (pc0 := 13) (pc' := 17) rfl (hb hby d22_13) (by decide) (by decide) k) ?_
      subst hΦ
      exact own_retN X0 hx (t := .boolean) Bd.returns (by simp) hlk (hb hby d22_17) e0 ⟨(by unfold own_blk; rw [if_neg hc3, if_pos hc9]; first | done | rfl), N0, rfl⟩ (by decide) (by decide)
    · refine own_go (fun t k => XS.icmpYes X0.here hx rfl (pc0 := 9) (pc' := 16) rfl (hb hby d22_9) rfl (feq hc9).2 (by decide) (by decide) k) ?_
      refine own_go (fun t k => XS.iconst X0.here hx rfl (hb hby d22_16) k) ?_
      subst hΦ
      exact own_retN X0 hx (t := .boolean) Bd.returns (by simp) hlk (hb hby d22_17) e0 ⟨(by unfold own_blk; rw [if_neg hc3, if_neg hc9]; first | done | rfl), N0, rfl⟩ (by decide) (by decide)
theorem d18_0 : decode prog_26_method_14_code 0 = .ok (.iload_n 0, 1) := by decide +kernel
theorem d18_1 : decode prog_26_method_14_code 1 = .ok (.bipush 32, 2) := by decide +kernel
theorem d18_3 : decode prog_26_method_14_code 3 = .ok (.if_icmp .eq 9, 3) := by decide +kernel
theorem d18_6 : decode prog_26_method_14_code 6 = .ok (.iload_n 0, 1) := by decide +kernel
theorem d18_7 : decode prog_26_method_14_code 7 = .ok (.bipush 9, 2) := by decide +kernel
theorem d18_9 : decode prog_26_method_14_code 9 = .ok (.if_icmp .ne 7, 3) := by decide +kernel
theorem d18_12 : decode prog_26_method_14_code 12 = .ok (.iconst 1, 1) := by decide +kernel
theorem d18_13 : decode prog_26_method_14_code 13 = .ok (.goto 4, 3) := by decide +kernel
theorem d18_16 : decode prog_26_method_14_code 16 = .ok (.iconst 0, 1) := by decide +kernel
theorem d18_17 : decode prog_26_method_14_code 17 = .ok (.ireturn, 1) := by decide +kernel
theorem pn_c4 : plainName "com/example/profitmine/profitmine/io/Fields" = true := by first | (simp [plainName, overriddenIn]; done) | decide +kernel
theorem ef_18_I (m : MethodId) (x0 : Int32) : entryFrame m #[(.int x0)] 1 = mkF m 0 #[.val (.int x0)] [] := by first | (simp [entryFrame, mkF, argsToLocals, Value.category]; done) | rfl
set_option maxRecDepth 65536 in
set_option maxHeartbeats 40000000 in
theorem rm_ib (l : Launch) (Z : State) (a0 : Array Value) (hw : ∀ d ∈ tables_1, d.before a0 Z = true) (p1 : Int32) (h0 : Heap) (n0 : Nat)  :
    own_Met l Z (⟨"com/example/profitmine/profitmine/io/Fields", "isBlank", "(C)Z"⟩ : MethodName) prog_26_method_14_code 1 (some .boolean) ({ frames := 0, cells := 0, slots := 0, locals := 0 } : Room) #[(.int p1)] h0 (fun v h L => v = some (.int (own_blk p1)) ∧ Fr n0 L ∧ h = h0) := by
  intro ws
  refine MetFree.of_bodySF (plainFor_of_name pn_c4) hisR ?_
  intro p e s m args below meth c s₁ Bd hml0 hP hK
  obtain ⟨rfl, hZ, hh⟩ := hP
  have hx := Bd.exec
  have hby := Bd.bytes
  have hml : c.maxLocals = 1 := hml0
  have hown : s.vm.findClass "com/example/profitmine/profitmine/io/Fields" = some m.cls := findClass_of_methodNamed Bd.named
  have hnm := (name_of_methodNamed Bd.named Bd.method).1
  have hlk : meth.locks = false := Bd.notSynchronized
  have X0 : Stand p l e ({ frames := 0, cells := 0, slots := 0, locals := 0 } : Room) s m #[(.int p1)] below meth c s₁ [] 0 0 := Stand.of_body Bd
  have e0 : s₁.heap = h0 := by rw [← hh, Bd.state]; rfl
  have N0 := Fr.nil n0
  refine own_body (Q := fun v h L => v = some (.int (own_blk p1)) ∧ Fr n0 L ∧ h = h0) ?_
  generalize hΦ : own_Fin s below _ _ _ = Φ
  refine own_cast (ef_18_I m p1) ?_
  show own_Run p e below Φ (s₁.setTop (mkF m 0 #[.val (.int p1)] []))
  refine own_go (fun t k => XS.iloadN X0.here hx rfl (hb hby d18_0) rfl  k) ?_
  refine own_go (fun t k => XS.bipush X0.here hx rfl (hb hby d18_1) k) ?_
  by_cases hc3 : p1 = (32 : Int32)
  · refine own_go (fun t k => XS.icmpYes X0.here hx rfl (pc0 := 3) (pc' := 12) rfl (hb hby d18_3) rfl (teq hc3).1 (by decide) (by decide) k) ?_
    refine own_go (fun t k => XS.iconst X0.here hx rfl (hb hby d18_12) k) ?_
    refine own_go (fun t k => XS.goto X0.here hx rfl (pc0 := 13) (pc' := 17) rfl (hb hby d18_13) (by decide) (by decide) k) ?_
    subst hΦ
    exact own_retN X0 hx (t := .boolean) Bd.returns (by simp) hlk (hb hby d18_17) e0 ⟨(by unfold own_blk; rw [if_pos hc3]; first | done | rfl), N0, rfl⟩ (by decide) (by decide)
  · refine own_go (fun t k => XS.icmpNo X0.here hx rfl (hb hby d18_3) rfl (feq hc3).1 k) ?_
    refine own_go (fun t k => XS.iloadN X0.here hx rfl (hb hby d18_6) rfl  k) ?_
    refine own_go (fun t k => XS.bipush X0.here hx rfl (hb hby d18_7) k) ?_
    by_cases hc9 : p1 = (9 : Int32)
    · refine own_go (fun t k => XS.icmpNo X0.here hx rfl (hb hby d18_9) rfl (teq hc9).2 k) ?_
      show own_Run p e below Φ (s₁.setTop (mkF m 12 #[.val (.int p1)] []))
      refine own_go (fun t k => XS.iconst X0.here hx rfl (hb hby d18_12) k) ?_
      refine own_go (fun t k => XS.goto X0.here hx rfl (pc0 := 13) (pc' := 17) rfl (hb hby d18_13) (by decide) (by decide) k) ?_
      subst hΦ
      exact own_retN X0 hx (t := .boolean) Bd.returns (by simp) hlk (hb hby d18_17) e0 ⟨(by unfold own_blk; rw [if_neg hc3, if_pos hc9]; first | done | rfl), N0, rfl⟩ (by decide) (by decide)
    · refine own_go (fun t k => XS.icmpYes X0.here hx rfl (pc0 := 9) (pc' := 16) rfl (hb hby d18_9) rfl (feq hc9).2 (by decide) (by decide) k) ?_
      refine own_go (fun t k => XS.iconst X0.here hx rfl (hb hby d18_16) k) ?_
      subst hΦ
      exact own_retN X0 hx (t := .boolean) Bd.returns (by simp) hlk (hb hby d18_17) e0 ⟨(by unfold own_blk; rw [if_neg hc3, if_neg hc9]; first | done | rfl), N0, rfl⟩ (by decide) (by decide)
theorem d17_0 : decode jdk_41_method_11_code 0 = .ok (.iload_n 0, 1) := by decide +kernel
theorem d17_1 : decode jdk_41_method_11_code 1 = .ok (.ifCond .lt 8, 3) := by decide +kernel
theorem d17_4 : decode jdk_41_method_11_code 4 = .ok (.iload_n 0, 1) := by decide +kernel
theorem d17_5 : decode jdk_41_method_11_code 5 = .ok (.iload_n 1, 1) := by decide +kernel
theorem d17_6 : decode jdk_41_method_11_code 6 = .ok (.if_icmp .lt 10, 3) := by decide +kernel
theorem d17_16 : decode jdk_41_method_11_code 16 = .ok (.iload_n 0, 1) := by decide +kernel
theorem d17_17 : decode jdk_41_method_11_code 17 = .ok (.ireturn, 1) := by decide +kernel
theorem pn_c6 : plainName "jdk/internal/util/Preconditions" = true := by first | (simp [plainName, overriddenIn]; done) | decide +kernel
theorem ef_17_IIn (m : MethodId) (x0 : Int32) (x1 : Int32) : entryFrame m #[(.int x0), (.int x1), .null] 3 = mkF m 0 #[.val (.int x0), .val (.int x1), .val .null] [] := by first | (simp [entryFrame, mkF, argsToLocals, Value.category]; done) | rfl
set_option maxRecDepth 65536 in
set_option maxHeartbeats 40000000 in
theorem rm_pk1 (l : Launch) (Z : State) (a0 : Array Value) (hw : ∀ d ∈ tables_1, d.before a0 Z = true) (p1 : Int32) (p2 : Int32) (h0 : Heap) (n0 : Nat) (hi1 : ¬ p1 < (0 : Int32)) (hi2 : p1 < p2) :
    own_Met l Z (⟨"jdk/internal/util/Preconditions", "checkIndex", "(IILjava/util/function/BiFunction;)I"⟩ : MethodName) jdk_41_method_11_code 3 (some .int) ({ frames := 0, cells := 0, slots := 0, locals := 0 } : Room) #[(.int p1), (.int p2), .null] h0 (fun v h L => v = some (.int p1) ∧ Fr n0 L ∧ h = h0) := by
  intro ws
  refine MetFree.of_bodySF (plainFor_of_name pn_c6) hisR ?_
  intro p e s m args below meth c s₁ Bd hml0 hP hK
  obtain ⟨rfl, hZ, hh⟩ := hP
  have hx := Bd.exec
  have hby := Bd.bytes
  have hml : c.maxLocals = 3 := hml0
  have hown : s.vm.findClass "jdk/internal/util/Preconditions" = some m.cls := findClass_of_methodNamed Bd.named
  have hnm := (name_of_methodNamed Bd.named Bd.method).1
  have hlk : meth.locks = false := Bd.notSynchronized
  have X0 : Stand p l e ({ frames := 0, cells := 0, slots := 0, locals := 0 } : Room) s m #[(.int p1), (.int p2), .null] below meth c s₁ [] 0 0 := Stand.of_body Bd
  have e0 : s₁.heap = h0 := by rw [← hh, Bd.state]; rfl
  have N0 := Fr.nil n0
  refine own_body (Q := fun v h L => v = some (.int p1) ∧ Fr n0 L ∧ h = h0) ?_
  generalize hΦ : own_Fin s below _ _ _ = Φ
  refine own_cast (ef_17_IIn m p1 p2) ?_
  show own_Run p e below Φ (s₁.setTop (mkF m 0 #[.val (.int p1), .val (.int p2), .val .null] []))
  refine own_go (fun t k => XS.iloadN X0.here hx rfl (hb hby d17_0) rfl  k) ?_
  have hc1 : ¬ (p1 < (0 : Int32)) := hi1
  refine own_go (fun t k => XS.ifNo X0.here hx rfl (hb hby d17_1) rfl ((if0 _ _).trans (flt hc1).1) k) ?_
  refine own_go (fun t k => XS.iloadN X0.here hx rfl (hb hby d17_4) rfl  k) ?_
  refine own_go (fun t k => XS.iloadN X0.here hx rfl (hb hby d17_5) rfl  k) ?_
  have hc6 : p1 < p2 := hi2
  refine own_go (fun t k => XS.icmpYes X0.here hx rfl (pc0 := 6) (pc' := 16) rfl (hb hby d17_6) rfl (tlt hc6).1 (by decide) (by decide) k) ?_
  refine own_go (fun t k => XS.iloadN X0.here hx rfl (hb hby d17_16) rfl  k) ?_
  subst hΦ
  exact own_retI X0 hx Bd.returns hlk (hb hby d17_17) e0 ⟨rfl, N0, rfl⟩ (by decide) (by decide)
theorem ef_17_IIR (m : MethodId) (x0 : Int32) (x1 : Int32) (x2 : Addr) : entryFrame m #[(.int x0), (.int x1), (.ref x2)] 3 = mkF m 0 #[.val (.int x0), .val (.int x1), .val (.ref x2)] [] := by first | (simp [entryFrame, mkF, argsToLocals, Value.category]; done) | rfl
set_option maxRecDepth 65536 in
set_option maxHeartbeats 40000000 in
theorem rm_pk0 (l : Launch) (Z : State) (a0 : Array Value) (hw : ∀ d ∈ tables_1, d.before a0 Z = true) (p1 : Int32) (p2 : Int32) (a3 : Addr) (h0 : Heap) (n0 : Nat) (hi1 : ¬ p1 < (0 : Int32)) (hi2 : p1 < p2) :
    own_Met l Z (⟨"jdk/internal/util/Preconditions", "checkIndex", "(IILjava/util/function/BiFunction;)I"⟩ : MethodName) jdk_41_method_11_code 3 (some .int) ({ frames := 0, cells := 0, slots := 0, locals := 0 } : Room) #[(.int p1), (.int p2), (.ref a3)] h0 (fun v h L => v = some (.int p1) ∧ Fr n0 L ∧ h = h0) := by
  intro ws
  refine MetFree.of_bodySF (plainFor_of_name pn_c6) hisR ?_
  intro p e s m args below meth c s₁ Bd hml0 hP hK
  obtain ⟨rfl, hZ, hh⟩ := hP
  have hx := Bd.exec
  have hby := Bd.bytes
  have hml : c.maxLocals = 3 := hml0
  have hown : s.vm.findClass "jdk/internal/util/Preconditions" = some m.cls := findClass_of_methodNamed Bd.named
  have hnm := (name_of_methodNamed Bd.named Bd.method).1
  have hlk : meth.locks = false := Bd.notSynchronized
  have X0 : Stand p l e ({ frames := 0, cells := 0, slots := 0, locals := 0 } : Room) s m #[(.int p1), (.int p2), (.ref a3)] below meth c s₁ [] 0 0 := Stand.of_body Bd
  have e0 : s₁.heap = h0 := by rw [← hh, Bd.state]; rfl
  have N0 := Fr.nil n0
  refine own_body (Q := fun v h L => v = some (.int p1) ∧ Fr n0 L ∧ h = h0) ?_
  generalize hΦ : own_Fin s below _ _ _ = Φ
  refine own_cast (ef_17_IIR m p1 p2 a3) ?_
  show own_Run p e below Φ (s₁.setTop (mkF m 0 #[.val (.int p1), .val (.int p2), .val (.ref a3)] []))
  refine own_go (fun t k => XS.iloadN X0.here hx rfl (hb hby d17_0) rfl  k) ?_
  have hc1 : ¬ (p1 < (0 : Int32)) := hi1
  refine own_go (fun t k => XS.ifNo X0.here hx rfl (hb hby d17_1) rfl ((if0 _ _).trans (flt hc1).1) k) ?_
  refine own_go (fun t k => XS.iloadN X0.here hx rfl (hb hby d17_4) rfl  k) ?_
  refine own_go (fun t k => XS.iloadN X0.here hx rfl (hb hby d17_5) rfl  k) ?_
  have hc6 : p1 < p2 := hi2
  refine own_go (fun t k => XS.icmpYes X0.here hx rfl (pc0 := 6) (pc' := 16) rfl (hb hby d17_6) rfl (tlt hc6).1 (by decide) (by decide) k) ?_
  refine own_go (fun t k => XS.iloadN X0.here hx rfl (hb hby d17_16) rfl  k) ?_
  subst hΦ
  exact own_retI X0 hx Bd.returns hlk (hb hby d17_17) e0 ⟨rfl, N0, rfl⟩ (by decide) (by decide)
theorem d16_0 : decode jdk_42_method_155_code 0 = .ok (.iload_n 0, 1) := by decide +kernel
theorem d16_1 : decode jdk_42_method_155_code 1 = .ok (.iload_n 1, 1) := by decide +kernel
theorem d16_2 : decode jdk_42_method_155_code 2 = .ok (.getstatic 1053, 3) := by decide +kernel
theorem d16_5 : decode jdk_42_method_155_code 5 = .ok (.invokestatic 1059, 3) := by decide +kernel
theorem d16_8 : decode jdk_42_method_155_code 8 = .ok (.pop, 1) := by decide +kernel
theorem d16_9 : decode jdk_42_method_155_code 9 = .ok (.return_, 1) := by decide +kernel
theorem pn_c1 : plainName "java/lang/String" = true := by first | (simp [plainName, overriddenIn]; done) | decide +kernel
theorem pd_13 : parseMethodDescriptor "(IILjava/util/function/BiFunction;)I" = some ⟨[.int, .int, (.object "java/util/function/BiFunction")], some .int⟩ := by decide +kernel
theorem ef_16_II (m : MethodId) (x0 : Int32) (x1 : Int32) : entryFrame m #[(.int x0), (.int x1)] 2 = mkF m 0 #[.val (.int x0), .val (.int x1)] [] := by first | (simp [entryFrame, mkF, argsToLocals, Value.category]; done) | rfl
set_option maxRecDepth 65536 in
set_option maxHeartbeats 40000000 in
theorem rm_ck (l : Launch) (Z : State) (a0 : Array Value) (hw : ∀ d ∈ tables_1, d.before a0 Z = true) (p1 : Int32) (p2 : Int32) (g3 : Value) (h0 : Heap) (n0 : Nat) (H1 : Old Z n0 h0) (H2 : Sta Z Z.heap "jdk/internal/util/Preconditions" "SIOOBE_FORMATTER" "Ljava/util/function/BiFunction;" g3) (hr : g3.isRef = true) (hi1 : ¬ p1 < (0 : Int32)) (hi2 : p1 < p2) :
    own_Met l Z (⟨"java/lang/String", "checkIndex", "(II)V"⟩ : MethodName) jdk_42_method_155_code 2 none ({ frames := 1, cells := 0, slots := 0, locals := 14 } : Room) #[(.int p1), (.int p2)] h0 (fun v h L => v = none ∧ Fr n0 L ∧ h = h0) := by
  intro ws
  refine MetFree.of_bodySF (plainFor_of_name pn_c1) hisR ?_
  intro p e s m args below meth c s₁ Bd hml0 hP hK
  obtain ⟨rfl, hZ, hh⟩ := hP
  have hx := Bd.exec
  have hby := Bd.bytes
  have hml : c.maxLocals = 2 := hml0
  have hown : s.vm.findClass "java/lang/String" = some m.cls := findClass_of_methodNamed Bd.named
  have hnm := (name_of_methodNamed Bd.named Bd.method).1
  have hlk : meth.locks = false := Bd.notSynchronized
  have X0 : Stand p l e ({ frames := 1, cells := 0, slots := 0, locals := 14 } : Room) s m #[(.int p1), (.int p2)] below meth c s₁ [] 0 0 := Stand.of_body Bd
  have e0 : s₁.heap = h0 := by rw [← hh, Bd.state]; rfl
  have N0 := Fr.nil n0
  refine own_body (Q := fun v h L => v = none ∧ Fr n0 L ∧ h = h0) ?_
  generalize hΦ : own_Fin s below _ _ _ = Φ
  refine own_cast (ef_16_II m p1 p2) ?_
  show own_Run p e below Φ (s₁.setTop (mkF m 0 #[.val (.int p1), .val (.int p2)] []))
  rcases ref_cases hr with rfl | ⟨g4, rfl⟩
  · skip
    show own_Run p e below Φ (s₁.setTop (mkF m 0 #[.val (.int p1), .val (.int p2)] []))
    refine own_go (fun t k => XS.iloadN X0.here hx rfl (hb hby d16_0) rfl  k) ?_
    refine own_go (fun t k => XS.iloadN X0.here hx rfl (hb hby d16_1) rfl  k) ?_
    obtain ⟨T1, X1, e1, st1⟩ := getS2 X0 hx hZ hown (host := "") (Or.inl (hw _ (List.mem_of_getElem? (i := 89) rfl))) Via.refl e0 (H2.ext H1.2) (g := (mkF m 2 #[.val (.int p1), .val (.int p2)] [(.int p2), (.int p1)])) rfl (hb hby d16_2)
    refine own_go st1 ?_
    refine own_callS X1 hx hZ (y := (⟨"jdk/internal/util/Preconditions", "checkIndex", "(IILjava/util/function/BiFunction;)I"⟩ : MethodName)) (W := 0) (argsL := [(.int p1), (.int p2), .null]) (rest := []) hown (hw _ (List.mem_of_getElem? (i := 91) rfl)) (hw _ (List.mem_of_getElem? (i := 92) rfl)) (hw _ (List.mem_of_getElem? (i := 90) rfl)) (hw _ (List.mem_of_getElem? (i := 93) rfl)) (by decide) (own_bk (rm_pk1 l Z a0 hw p1 p2 h0 n0 hi1 hi2) hZ (hw _ (List.mem_of_getElem? (i := 93) rfl)) (hw _ (List.mem_of_getElem? (i := 90) rfl)) (by decide) (by decide)) e1 (g := (mkF m 5 #[.val (.int p1), .val (.int p2)] [.null, (.int p2), (.int p1)])) rfl (by rw [hml]; rfl) (lenOf pd_13 rfl) rfl (by show 2 * 0 + _ ≤ _; exact Nat.le_of_eq rfl) (hb hby d16_5) (by decide) (by decide) (fun v2 T2 h2 L2 X2 e2 q2 => ?_)
    obtain ⟨rfl, M2, s2⟩ := q2
    replace e2 : T2.heap = h0 := e2.trans s2
    have N2 := Fr.app N0 M2
    refine own_go (fun t k => XS.pop X2.here hx rfl (hb hby d16_8) rfl rfl k) ?_
    subst hΦ
    exact own_retV X2 hx Bd.returns hlk (hb hby d16_9) e2 ⟨rfl, N2, rfl⟩ (by decide) (by decide)
  · skip
    show own_Run p e below Φ (s₁.setTop (mkF m 0 #[.val (.int p1), .val (.int p2)] []))
    refine own_go (fun t k => XS.iloadN X0.here hx rfl (hb hby d16_0) rfl  k) ?_
    refine own_go (fun t k => XS.iloadN X0.here hx rfl (hb hby d16_1) rfl  k) ?_
    obtain ⟨T3, X3, e3, st3⟩ := getS2 X0 hx hZ hown (host := "") (Or.inl (hw _ (List.mem_of_getElem? (i := 89) rfl))) Via.refl e0 (H2.ext H1.2) (g := (mkF m 2 #[.val (.int p1), .val (.int p2)] [(.int p2), (.int p1)])) rfl (hb hby d16_2)
    refine own_go st3 ?_
    refine own_callS X3 hx hZ (y := (⟨"jdk/internal/util/Preconditions", "checkIndex", "(IILjava/util/function/BiFunction;)I"⟩ : MethodName)) (W := 0) (argsL := [(.int p1), (.int p2), (.ref g4)]) (rest := []) hown (hw _ (List.mem_of_getElem? (i := 91) rfl)) (hw _ (List.mem_of_getElem? (i := 92) rfl)) (hw _ (List.mem_of_getElem? (i := 90) rfl)) (hw _ (List.mem_of_getElem? (i := 93) rfl)) (by decide) (own_bk (rm_pk0 l Z a0 hw p1 p2 g4 h0 n0 hi1 hi2) hZ (hw _ (List.mem_of_getElem? (i := 93) rfl)) (hw _ (List.mem_of_getElem? (i := 90) rfl)) (by decide) (by decide)) e3 (g := (mkF m 5 #[.val (.int p1), .val (.int p2)] [(.ref g4), (.int p2), (.int p1)])) rfl (by rw [hml]; rfl) (lenOf pd_13 rfl) rfl (by show 2 * 0 + _ ≤ _; exact Nat.le_of_eq rfl) (hb hby d16_5) (by decide) (by decide) (fun v4 T4 h4 L4 X4 e4 q4 => ?_)
    obtain ⟨rfl, M4, s4⟩ := q4
    replace e4 : T4.heap = h0 := e4.trans s4
    have N4 := Fr.app N0 M4
    show own_Run p e below Φ (T4.setTop (mkF m 8 #[.val (.int p1), .val (.int p2)] [(.int p1)]))
    refine own_go (fun t k => XS.pop X4.here hx rfl (hb hby d16_8) rfl rfl k) ?_
    subst hΦ
    exact own_retV X4 hx Bd.returns hlk (hb hby d16_9) e4 ⟨rfl, N4, rfl⟩ (by decide) (by decide)
theorem d12_0 : decode jdk_42_method_152_code 0 = .ok (.getstatic 38, 3) := by decide +kernel
theorem d12_3 : decode jdk_42_method_152_code 3 = .ok (.ifCond .eq 10, 3) := by decide +kernel
theorem d12_6 : decode jdk_42_method_152_code 6 = .ok (.aload_n 0, 1) := by decide +kernel
theorem d12_7 : decode jdk_42_method_152_code 7 = .ok (.getfield 15, 3) := by decide +kernel
theorem d12_10 : decode jdk_42_method_152_code 10 = .ok (.goto 4, 3) := by decide +kernel
theorem d12_14 : decode jdk_42_method_152_code 14 = .ok (.ireturn, 1) := by decide +kernel
theorem ef_12_R (m : MethodId) (x0 : Addr) : entryFrame m #[(.ref x0)] 1 = mkF m 0 #[.val (.ref x0)] [] := by first | (simp [entryFrame, mkF, argsToLocals, Value.category]; done) | rfl
set_option maxRecDepth 65536 in
set_option maxHeartbeats 40000000 in
theorem rm_co (l : Launch) (Z : State) (a0 : Array Value) (hw : ∀ d ∈ tables_1, d.before a0 Z = true) (a1 : Addr) (g1 : Int32) (h0 : Heap) (n0 : Nat) (H1 : Old Z n0 h0) (H2 : Sta Z Z.heap "java/lang/String" "COMPACT_STRINGS" "Z" (.int g1)) (hg5 : ¬ (g1 = (0 : Int32))) (H4 : Fld Z h0 a1 "java/lang/String" "coder" "B" (.int (0 : Int32))) :
    own_Met l Z (⟨"java/lang/String", "coder", "()B"⟩ : MethodName) jdk_42_method_152_code 1 (some .byte) ({ frames := 0, cells := 0, slots := 0, locals := 0 } : Room) #[(.ref a1)] h0 (fun v h L => v = some (.int (0 : Int32)) ∧ Fr n0 L ∧ h = h0) := by
  intro ws
  refine MetFree.of_bodySF (plainFor_of_name pn_c1) hisR ?_
  intro p e s m args below meth c s₁ Bd hml0 hP hK
  obtain ⟨rfl, hZ, hh⟩ := hP
  have hx := Bd.exec
  have hby := Bd.bytes
  have hml : c.maxLocals = 1 := hml0
  have hown : s.vm.findClass "java/lang/String" = some m.cls := findClass_of_methodNamed Bd.named
  have hnm := (name_of_methodNamed Bd.named Bd.method).1
  have hlk : meth.locks = false := Bd.notSynchronized
  have X0 : Stand p l e ({ frames := 0, cells := 0, slots := 0, locals := 0 } : Room) s m #[(.ref a1)] below meth c s₁ [] 0 0 := Stand.of_body Bd
  have e0 : s₁.heap = h0 := by rw [← hh, Bd.state]; rfl
  have N0 := Fr.nil n0
  refine own_body (Q := fun v h L => v = some (.int (0 : Int32)) ∧ Fr n0 L ∧ h = h0) ?_
  generalize hΦ : own_Fin s below _ _ _ = Φ
  refine own_cast (ef_12_R m a1) ?_
  show own_Run p e below Φ (s₁.setTop (mkF m 0 #[.val (.ref a1)] []))
  obtain ⟨T1, X1, e1, st1⟩ := getS2 X0 hx hZ hown (host := "") (Or.inl (hw _ (List.mem_of_getElem? (i := 18) rfl))) Via.refl e0 (H2.ext H1.2) (g := (mkF m 0 #[.val (.ref a1)] [])) rfl (hb hby d12_0)
  refine own_go st1 ?_
  have hc3 : ¬ (g1 = (0 : Int32)) := hg5
  refine own_go (fun t k => XS.ifNo X1.here hx rfl (hb hby d12_3) rfl ((if0 _ _).trans (feq hc3).1) k) ?_
  refine own_go (fun t k => XS.aloadN X1.here hx rfl (hb hby d12_6) rfl rfl  k) ?_
  obtain ⟨T2, X2, e2, st2⟩ := getF X1 hx hZ hown (host := "") (Or.inl (hw _ (List.mem_of_getElem? (i := 30) rfl))) Via.refl e1 H4 (g := (mkF m 7 #[.val (.ref a1)] [(.ref a1)])) rfl rfl (hb hby d12_7)
  refine own_go st2 ?_
  refine own_go (fun t k => XS.goto X2.here hx rfl (pc0 := 10) (pc' := 14) rfl (hb hby d12_10) (by decide) (by decide) k) ?_
  subst hΦ
  exact own_retN X2 hx (t := .byte) Bd.returns (by simp) hlk (hb hby d12_14) e2 ⟨rfl, N0, rfl⟩ (by decide) (by decide)
theorem d14_0 : decode jdk_42_method_154_code 0 = .ok (.getstatic 38, 3) := by decide +kernel
theorem d14_3 : decode jdk_42_method_154_code 3 = .ok (.ifCond .eq 14, 3) := by decide +kernel
theorem d14_6 : decode jdk_42_method_154_code 6 = .ok (.aload_n 0, 1) := by decide +kernel
theorem d14_7 : decode jdk_42_method_154_code 7 = .ok (.getfield 15, 3) := by decide +kernel
theorem d14_10 : decode jdk_42_method_154_code 10 = .ok (.ifCond .ne 7, 3) := by decide +kernel
theorem d14_13 : decode jdk_42_method_154_code 13 = .ok (.iconst 1, 1) := by decide +kernel
theorem d14_14 : decode jdk_42_method_154_code 14 = .ok (.goto 4, 3) := by decide +kernel
theorem d14_18 : decode jdk_42_method_154_code 18 = .ok (.ireturn, 1) := by decide +kernel
theorem ef_14_R (m : MethodId) (x0 : Addr) : entryFrame m #[(.ref x0)] 1 = mkF m 0 #[.val (.ref x0)] [] := by first | (simp [entryFrame, mkF, argsToLocals, Value.category]; done) | rfl
set_option maxRecDepth 65536 in
set_option maxHeartbeats 40000000 in
theorem rm_il (l : Launch) (Z : State) (a0 : Array Value) (hw : ∀ d ∈ tables_1, d.before a0 Z = true) (a1 : Addr) (g1 : Int32) (h0 : Heap) (n0 : Nat) (H1 : Old Z n0 h0) (H2 : Sta Z Z.heap "java/lang/String" "COMPACT_STRINGS" "Z" (.int g1)) (hg5 : ¬ (g1 = (0 : Int32))) (H4 : Fld Z h0 a1 "java/lang/String" "coder" "B" (.int (0 : Int32))) :
    own_Met l Z (⟨"java/lang/String", "isLatin1", "()Z"⟩ : MethodName) jdk_42_method_154_code 1 (some .boolean) ({ frames := 0, cells := 0, slots := 0, locals := 0 } : Room) #[(.ref a1)] h0 (fun v h L => v = some (.int (1 : Int32)) ∧ Fr n0 L ∧ h = h0) := by
  intro ws
  refine MetFree.of_bodySF (plainFor_of_name pn_c1) hisR ?_
  intro p e s m args below meth c s₁ Bd hml0 hP hK
  obtain ⟨rfl, hZ, hh⟩ := hP
  have hx := Bd.exec
  have hby := Bd.bytes
  have hml : c.maxLocals = 1 := hml0
  have hown : s.vm.findClass "java/lang/String" = some m.cls := findClass_of_methodNamed Bd.named
  have hnm := (name_of_methodNamed Bd.named Bd.method).1
  have hlk : meth.locks = false := Bd.notSynchronized
  have X0 : Stand p l e ({ frames := 0, cells := 0, slots := 0, locals := 0 } : Room) s m #[(.ref a1)] below meth c s₁ [] 0 0 := Stand.of_body Bd
  have e0 : s₁.heap = h0 := by rw [← hh, Bd.state]; rfl
  have N0 := Fr.nil n0
  refine own_body (Q := fun v h L => v = some (.int (1 : Int32)) ∧ Fr n0 L ∧ h = h0) ?_
  generalize hΦ : own_Fin s below _ _ _ = Φ
  refine own_cast (ef_14_R m a1) ?_
  show own_Run p e below Φ (s₁.setTop (mkF m 0 #[.val (.ref a1)] []))
  obtain ⟨T1, X1, e1, st1⟩ := getS2 X0 hx hZ hown (host := "") (Or.inl (hw _ (List.mem_of_getElem? (i := 18) rfl))) Via.refl e0 (H2.ext H1.2) (g := (mkF m 0 #[.val (.ref a1)] [])) rfl (hb hby d14_0)
  refine own_go st1 ?_
  have hc3 : ¬ (g1 = (0 : Int32)) := hg5
  refine own_go (fun t k => XS.ifNo X1.here hx rfl (hb hby d14_3) rfl ((if0 _ _).trans (feq hc3).1) k) ?_
  refine own_go (fun t k => XS.aloadN X1.here hx rfl (hb hby d14_6) rfl rfl  k) ?_
  obtain ⟨T2, X2, e2, st2⟩ := getF X1 hx hZ hown (host := "") (Or.inl (hw _ (List.mem_of_getElem? (i := 30) rfl))) Via.refl e1 H4 (g := (mkF m 7 #[.val (.ref a1)] [(.ref a1)])) rfl rfl (hb hby d14_7)
  refine own_go st2 ?_
  refine own_go (fun t k => XS.ifNo X2.here hx rfl (hb hby d14_10) rfl ((if0 _ _).trans (teq (rfl : (0 : Int32) = (0 : Int32))).2) k) ?_
  refine own_go (fun t k => XS.iconst X2.here hx rfl (hb hby d14_13) k) ?_
  refine own_go (fun t k => XS.goto X2.here hx rfl (pc0 := 14) (pc' := 18) rfl (hb hby d14_14) (by decide) (by decide) k) ?_
  subst hΦ
  exact own_retN X2 hx (t := .boolean) Bd.returns (by simp) hlk (hb hby d14_18) e2 ⟨rfl, N0, rfl⟩ (by decide) (by decide)
theorem d11_0 : decode jdk_42_method_54_code 0 = .ok (.aload_n 0, 1) := by decide +kernel
theorem d11_1 : decode jdk_42_method_54_code 1 = .ok (.getfield 9, 3) := by decide +kernel
theorem d11_4 : decode jdk_42_method_54_code 4 = .ok (.arraylength, 1) := by decide +kernel
theorem d11_5 : decode jdk_42_method_54_code 5 = .ok (.aload_n 0, 1) := by decide +kernel
theorem d11_6 : decode jdk_42_method_54_code 6 = .ok (.invokevirtual 335, 3) := by decide +kernel
theorem d11_9 : decode jdk_42_method_54_code 9 = .ok (.ishr, 1) := by decide +kernel
theorem d11_10 : decode jdk_42_method_54_code 10 = .ok (.ireturn, 1) := by decide +kernel
theorem pd_10 : parseMethodDescriptor "()B" = some ⟨[], some .byte⟩ := by decide +kernel
theorem ef_11_R (m : MethodId) (x0 : Addr) : entryFrame m #[(.ref x0)] 1 = mkF m 0 #[.val (.ref x0)] [] := by first | (simp [entryFrame, mkF, argsToLocals, Value.category]; done) | rfl
set_option maxRecDepth 65536 in
set_option maxHeartbeats 40000000 in
theorem rm_le (l : Launch) (Z : State) (a0 : Array Value) (hw : ∀ d ∈ tables_1, d.before a0 Z = true) (a1 : Addr) (g1 : Int32) (tx : Addr) (kx : ClassId) (y0 : Int32) (y1 : Int32) (y2 : Int32) (h0 : Heap) (n0 : Nat) (H1 : Old Z n0 h0) (H2 : Sta Z Z.heap "java/lang/String" "COMPACT_STRINGS" "Z" (.int g1)) (hg5 : ¬ (g1 = (0 : Int32))) (H4 : Exa Z h0 a1 "java/lang/String") (H5 : Fld Z h0 a1 "java/lang/String" "value" "[B" (.ref tx)) (H6 : Fld Z h0 a1 "java/lang/String" "coder" "B" (.int (0 : Int32))) (H7 : Arv Z h0 tx kx .byte (3 : Int32) [(.int (y0.toInt8.toInt32)), (.int (y1.toInt8.toInt32)), (.int (y2.toInt8.toInt32))] (.int 0)) :
    own_Met l Z (⟨"java/lang/String", "length", "()I"⟩ : MethodName) jdk_42_method_54_code 1 (some .int) ({ frames := 1, cells := 0, slots := 0, locals := 13 } : Room) #[(.ref a1)] h0 (fun v h L => v = some (.int (3 : Int32)) ∧ Fr n0 L ∧ h = h0) := by
  intro ws
  refine MetFree.of_bodySF (plainFor_of_name pn_c1) hisR ?_
  intro p e s m args below meth c s₁ Bd hml0 hP hK
  obtain ⟨rfl, hZ, hh⟩ := hP
  have hx := Bd.exec
  have hby := Bd.bytes
  have hml : c.maxLocals = 1 := hml0
  have hown : s.vm.findClass "java/lang/String" = some m.cls := findClass_of_methodNamed Bd.named
  have hnm := (name_of_methodNamed Bd.named Bd.method).1
  have hlk : meth.locks = false := Bd.notSynchronized
  have X0 : Stand p l e ({ frames := 1, cells := 0, slots := 0, locals := 13 } : Room) s m #[(.ref a1)] below meth c s₁ [] 0 0 := Stand.of_body Bd
  have e0 : s₁.heap = h0 := by rw [← hh, Bd.state]; rfl
  have N0 := Fr.nil n0
  refine own_body (Q := fun v h L => v = some (.int (3 : Int32)) ∧ Fr n0 L ∧ h = h0) ?_
  generalize hΦ : own_Fin s below _ _ _ = Φ
  refine own_cast (ef_11_R m a1) ?_
  show own_Run p e below Φ (s₁.setTop (mkF m 0 #[.val (.ref a1)] []))
  refine own_go (fun t k => XS.aloadN X0.here hx rfl (hb hby d11_0) rfl rfl  k) ?_
  obtain ⟨T1, X1, e1, st1⟩ := getF X0 hx hZ hown (host := "") (Or.inl (hw _ (List.mem_of_getElem? (i := 32) rfl))) Via.refl e0 H5 (g := (mkF m 1 #[.val (.ref a1)] [(.ref a1)])) rfl rfl (hb hby d11_1)
  refine own_go st1 ?_
  refine own_arrlen X1 hx hZ e1 H7 (g := (mkF m 4 #[.val (.ref a1)] [(.ref tx)])) rfl rfl (hb hby d11_4) ?_
  refine own_go (fun t k => XS.aloadN X1.here hx rfl (hb hby d11_5) rfl rfl  k) ?_
  refine own_callV X1 hx hZ (y := (⟨"java/lang/String", "coder", "()B"⟩ : MethodName)) (z := (⟨"java/lang/String", "coder", "()B"⟩ : MethodName)) (W := 1) (a := a1) (argsL := []) (rest := [(.int (3 : Int32))]) hown (hw _ (List.mem_of_getElem? (i := 67) rfl)) (hw _ (List.mem_of_getElem? (i := 68) rfl)) (notFace_of_selects (args := #[]) (mvT hZ (hw _ (List.mem_of_getElem? (i := 70) rfl)))) (hw _ (List.mem_of_getElem? (i := 70) rfl)) (hw _ (List.mem_of_getElem? (i := 69) rfl)) (by decide) (own_bk (rm_co l Z a0 hw a1 g1 h0 n0 H1 H2 hg5 H6) hZ (hw _ (List.mem_of_getElem? (i := 71) rfl)) (hw _ (List.mem_of_getElem? (i := 7) rfl)) (by decide) (by decide)) e1 H4 (g := (mkF m 6 #[.val (.ref a1)] [(.ref a1), (.int (3 : Int32))])) rfl (by rw [hml]; rfl) (lenOf pd_10 rfl) rfl (by show 2 * 0 + _ ≤ _; exact Nat.le_of_eq rfl) (hb hby d11_6) (by decide) (by decide) (fun v2 T2 h2 L2 X2 e2 q2 => ?_)
  obtain ⟨rfl, M2, s2⟩ := q2
  replace e2 : T2.heap = h0 := e2.trans s2
  have N2 := Fr.app N0 M2
  refine own_go (fun t k => XS.ishr X2.here hx rfl (hb hby d11_9) rfl k) ?_
  show own_Run p e below Φ (T2.setTop (mkF m 10 #[.val (.ref a1)] [(.int ((3 : Int32) >>> ((0 : Int32) &&& 31)))]))
  rw [show ((3 : Int32) >>> ((0 : Int32) &&& 31)) = (3 : Int32) from by decide]
  show own_Run p e below Φ (T2.setTop (mkF m 10 #[.val (.ref a1)] [(.int (3 : Int32))]))
  subst hΦ
  exact own_retI X2 hx Bd.returns hlk (hb hby d11_10) e2 ⟨rfl, N2, rfl⟩ (by decide) (by decide)
theorem d15_0 : decode jdk_43_method_2_code 0 = .ok (.iload_n 1, 1) := by decide +kernel
theorem d15_1 : decode jdk_43_method_2_code 1 = .ok (.aload_n 0, 1) := by decide +kernel
theorem d15_2 : decode jdk_43_method_2_code 2 = .ok (.arraylength, 1) := by decide +kernel
theorem d15_3 : decode jdk_43_method_2_code 3 = .ok (.invokestatic 9, 3) := by decide +kernel
theorem d15_6 : decode jdk_43_method_2_code 6 = .ok (.aload_n 0, 1) := by decide +kernel
theorem d15_7 : decode jdk_43_method_2_code 7 = .ok (.iload_n 1, 1) := by decide +kernel
theorem d15_8 : decode jdk_43_method_2_code 8 = .ok (.baload, 1) := by decide +kernel
theorem d15_9 : decode jdk_43_method_2_code 9 = .ok (.sipush 255, 3) := by decide +kernel
theorem d15_12 : decode jdk_43_method_2_code 12 = .ok (.iand, 1) := by decide +kernel
theorem d15_13 : decode jdk_43_method_2_code 13 = .ok (.i2c, 1) := by decide +kernel
theorem d15_14 : decode jdk_43_method_2_code 14 = .ok (.ireturn, 1) := by decide +kernel
theorem pn_c5 : plainName "java/lang/StringLatin1" = true := by first | (simp [plainName, overriddenIn]; done) | decide +kernel
theorem pd_12 : parseMethodDescriptor "(II)V" = some ⟨[.int, .int], none⟩ := by decide +kernel
theorem ef_15_RI (m : MethodId) (x0 : Addr) (x1 : Int32) : entryFrame m #[(.ref x0), (.int x1)] 2 = mkF m 0 #[.val (.ref x0), .val (.int x1)] [] := by first | (simp [entryFrame, mkF, argsToLocals, Value.category]; done) | rfl
set_option maxRecDepth 65536 in
set_option maxHeartbeats 40000000 in
theorem rm_lc0 (l : Launch) (Z : State) (a0 : Array Value) (hw : ∀ d ∈ tables_1, d.before a0 Z = true) (a1 : Addr) (kx : ClassId) (y0 : Int32) (y1 : Int32) (y2 : Int32) (g3 : Value) (h0 : Heap) (n0 : Nat) (H1 : Old Z n0 h0) (H2 : Sta Z Z.heap "jdk/internal/util/Preconditions" "SIOOBE_FORMATTER" "Ljava/util/function/BiFunction;" g3) (hr : g3.isRef = true) (H4 : Arv Z h0 a1 kx .byte (3 : Int32) [(.int (y0.toInt8.toInt32)), (.int (y1.toInt8.toInt32)), (.int (y2.toInt8.toInt32))] (.int 0)) (hy : 0 ≤ y0.toInt ∧ y0.toInt ≤ 255) :
    own_Met l Z (⟨"java/lang/StringLatin1", "charAt", "([BI)C"⟩ : MethodName) jdk_43_method_2_code 2 (some .char) ({ frames := 2, cells := 0, slots := 0, locals := 27 } : Room) #[(.ref a1), (.int (0 : Int32))] h0 (fun v h L => v = some (.int y0) ∧ Fr n0 L ∧ h = h0) := by
  intro ws
  refine MetFree.of_bodySF (plainFor_of_name pn_c5) hisR ?_
  intro p e s m args below meth c s₁ Bd hml0 hP hK
  obtain ⟨rfl, hZ, hh⟩ := hP
  have hx := Bd.exec
  have hby := Bd.bytes
  have hml : c.maxLocals = 2 := hml0
  have hown : s.vm.findClass "java/lang/StringLatin1" = some m.cls := findClass_of_methodNamed Bd.named
  have hnm := (name_of_methodNamed Bd.named Bd.method).1
  have hlk : meth.locks = false := Bd.notSynchronized
  have X0 : Stand p l e ({ frames := 2, cells := 0, slots := 0, locals := 27 } : Room) s m #[(.ref a1), (.int (0 : Int32))] below meth c s₁ [] 0 0 := Stand.of_body Bd
  have e0 : s₁.heap = h0 := by rw [← hh, Bd.state]; rfl
  have N0 := Fr.nil n0
  refine own_body (Q := fun v h L => v = some (.int y0) ∧ Fr n0 L ∧ h = h0) ?_
  generalize hΦ : own_Fin s below _ _ _ = Φ
  refine own_cast (ef_15_RI m a1 (0 : Int32)) ?_
  show own_Run p e below Φ (s₁.setTop (mkF m 0 #[.val (.ref a1), .val (.int (0 : Int32))] []))
  refine own_go (fun t k => XS.iloadN X0.here hx rfl (hb hby d15_0) rfl  k) ?_
  refine own_go (fun t k => XS.aloadN X0.here hx rfl (hb hby d15_1) rfl rfl  k) ?_
  refine own_arrlen X0 hx hZ e0 H4 (g := (mkF m 2 #[.val (.ref a1), .val (.int (0 : Int32))] [(.ref a1), (.int (0 : Int32))])) rfl rfl (hb hby d15_2) ?_
  refine own_callS X0 hx hZ (y := (⟨"java/lang/String", "checkIndex", "(II)V"⟩ : MethodName)) (W := 0) (argsL := [(.int (0 : Int32)), (.int (3 : Int32))]) (rest := []) hown (hw _ (List.mem_of_getElem? (i := 86) rfl)) (hw _ (List.mem_of_getElem? (i := 87) rfl)) (hw _ (List.mem_of_getElem? (i := 7) rfl)) (hw _ (List.mem_of_getElem? (i := 88) rfl)) (by decide) (own_bk (rm_ck l Z a0 hw (0 : Int32) (3 : Int32) g3 h0 n0 H1 H2 hr (by decide) (by decide)) hZ (hw _ (List.mem_of_getElem? (i := 88) rfl)) (hw _ (List.mem_of_getElem? (i := 7) rfl)) (by decide) (by decide)) e0 (g := (mkF m 3 #[.val (.ref a1), .val (.int (0 : Int32))] [(.int (3 : Int32)), (.int (0 : Int32))])) rfl (by rw [hml]; rfl) (lenOf pd_12 rfl) rfl (by show 2 * 0 + _ ≤ _; exact Nat.le_of_eq rfl) (hb hby d15_3) (by decide) (by decide) (fun v1 T1 h1 L1 X1 e1 q1 => ?_)
  obtain ⟨rfl, M1, s1⟩ := q1
  replace e1 : T1.heap = h0 := e1.trans s1
  have N1 := Fr.app N0 M1
  refine own_go (fun t k => XS.aloadN X1.here hx rfl (hb hby d15_6) rfl rfl  k) ?_
  refine own_go (fun t k => XS.iloadN X1.here hx rfl (hb hby d15_7) rfl  k) ?_
  refine own_baload X1 hx hZ e1 H4 (j := (0 : Int32)) (v := (.int (y0.toInt8.toInt32))) ⟨by decide, by decide⟩ rfl (g := (mkF m 8 #[.val (.ref a1), .val (.int (0 : Int32))] [(.int (0 : Int32)), (.ref a1)])) rfl rfl (hb hby d15_8) ?_
  refine own_go (fun t k => XS.sipush X1.here hx rfl (hb hby d15_9) k) ?_
  refine own_go (fun t k => XS.iand X1.here hx rfl (hb hby d15_12) rfl k) ?_
  show own_Run p e below Φ (T1.setTop (mkF m 13 #[.val (.ref a1), .val (.int (0 : Int32))] [(.int ((y0.toInt8.toInt32) &&& (255 : Int32)))]))
  refine own_go (fun t k => XS.i2c X1.here hx rfl (hb hby d15_13) rfl k) ?_
  subst hΦ
  exact own_retN X1 hx (t := .char) Bd.returns (by simp) hlk (hb hby d15_14) e1 ⟨(by rw [own_by hy]), N1, rfl⟩ (by decide) (by decide)
theorem d13_0 : decode jdk_42_method_56_code 0 = .ok (.aload_n 0, 1) := by decide +kernel
theorem d13_1 : decode jdk_42_method_56_code 1 = .ok (.invokevirtual 492, 3) := by decide +kernel
theorem d13_4 : decode jdk_42_method_56_code 4 = .ok (.ifCond .eq 12, 3) := by decide +kernel
theorem d13_7 : decode jdk_42_method_56_code 7 = .ok (.aload_n 0, 1) := by decide +kernel
theorem d13_8 : decode jdk_42_method_56_code 8 = .ok (.getfield 9, 3) := by decide +kernel
theorem d13_11 : decode jdk_42_method_56_code 11 = .ok (.iload_n 1, 1) := by decide +kernel
theorem d13_12 : decode jdk_42_method_56_code 12 = .ok (.invokestatic 495, 3) := by decide +kernel
theorem d13_15 : decode jdk_42_method_56_code 15 = .ok (.ireturn, 1) := by decide +kernel
theorem pd_8 : parseMethodDescriptor "()Z" = some ⟨[], some .boolean⟩ := by decide +kernel
theorem pd_11 : parseMethodDescriptor "([BI)C" = some ⟨[(.array .byte), .int], some .char⟩ := by decide +kernel
theorem ef_13_RI (m : MethodId) (x0 : Addr) (x1 : Int32) : entryFrame m #[(.ref x0), (.int x1)] 2 = mkF m 0 #[.val (.ref x0), .val (.int x1)] [] := by first | (simp [entryFrame, mkF, argsToLocals, Value.category]; done) | rfl
set_option maxRecDepth 65536 in
set_option maxHeartbeats 40000000 in
theorem rm_ch0 (l : Launch) (Z : State) (a0 : Array Value) (hw : ∀ d ∈ tables_1, d.before a0 Z = true) (a1 : Addr) (g1 : Int32) (g3 : Value) (tx : Addr) (kx : ClassId) (y0 : Int32) (y1 : Int32) (y2 : Int32) (h0 : Heap) (n0 : Nat) (H1 : Old Z n0 h0) (H2 : Sta Z Z.heap "java/lang/String" "COMPACT_STRINGS" "Z" (.int g1)) (hg5 : ¬ (g1 = (0 : Int32))) (H4 : Sta Z Z.heap "jdk/internal/util/Preconditions" "SIOOBE_FORMATTER" "Ljava/util/function/BiFunction;" g3) (hr : g3.isRef = true) (H6 : Exa Z h0 a1 "java/lang/String") (H7 : Fld Z h0 a1 "java/lang/String" "value" "[B" (.ref tx)) (H8 : Fld Z h0 a1 "java/lang/String" "coder" "B" (.int (0 : Int32))) (H9 : Arv Z h0 tx kx .byte (3 : Int32) [(.int (y0.toInt8.toInt32)), (.int (y1.toInt8.toInt32)), (.int (y2.toInt8.toInt32))] (.int 0)) (hy : 0 ≤ y0.toInt ∧ y0.toInt ≤ 255) :
    own_Met l Z (⟨"java/lang/String", "charAt", "(I)C"⟩ : MethodName) jdk_42_method_56_code 2 (some .char) ({ frames := 3, cells := 0, slots := 0, locals := 40 } : Room) #[(.ref a1), (.int (0 : Int32))] h0 (fun v h L => v = some (.int y0) ∧ Fr n0 L ∧ h = h0) := by
  intro ws
  refine MetFree.of_bodySF (plainFor_of_name pn_c1) hisR ?_
  intro p e s m args below meth c s₁ Bd hml0 hP hK
  obtain ⟨rfl, hZ, hh⟩ := hP
  have hx := Bd.exec
  have hby := Bd.bytes
  have hml : c.maxLocals = 2 := hml0
  have hown : s.vm.findClass "java/lang/String" = some m.cls := findClass_of_methodNamed Bd.named
  have hnm := (name_of_methodNamed Bd.named Bd.method).1
  have hlk : meth.locks = false := Bd.notSynchronized
  have X0 : Stand p l e ({ frames := 3, cells := 0, slots := 0, locals := 40 } : Room) s m #[(.ref a1), (.int (0 : Int32))] below meth c s₁ [] 0 0 := Stand.of_body Bd
  have e0 : s₁.heap = h0 := by rw [← hh, Bd.state]; rfl
  have N0 := Fr.nil n0
  refine own_body (Q := fun v h L => v = some (.int y0) ∧ Fr n0 L ∧ h = h0) ?_
  generalize hΦ : own_Fin s below _ _ _ = Φ
  refine own_cast (ef_13_RI m a1 (0 : Int32)) ?_
  show own_Run p e below Φ (s₁.setTop (mkF m 0 #[.val (.ref a1), .val (.int (0 : Int32))] []))
  refine own_go (fun t k => XS.aloadN X0.here hx rfl (hb hby d13_0) rfl rfl  k) ?_
  refine own_callV X0 hx hZ (y := (⟨"java/lang/String", "isLatin1", "()Z"⟩ : MethodName)) (z := (⟨"java/lang/String", "isLatin1", "()Z"⟩ : MethodName)) (W := 0) (a := a1) (argsL := []) (rest := []) hown (hw _ (List.mem_of_getElem? (i := 77) rfl)) (hw _ (List.mem_of_getElem? (i := 78) rfl)) (notFace_of_selects (args := #[]) (mvT hZ (hw _ (List.mem_of_getElem? (i := 80) rfl)))) (hw _ (List.mem_of_getElem? (i := 80) rfl)) (hw _ (List.mem_of_getElem? (i := 79) rfl)) (by decide) (own_bk (rm_il l Z a0 hw a1 g1 h0 n0 H1 H2 hg5 H8) hZ (hw _ (List.mem_of_getElem? (i := 81) rfl)) (hw _ (List.mem_of_getElem? (i := 7) rfl)) (by decide) (by decide)) e0 H6 (g := (mkF m 1 #[.val (.ref a1), .val (.int (0 : Int32))] [(.ref a1)])) rfl (by rw [hml]; rfl) (lenOf pd_8 rfl) rfl (by show 2 * 0 + _ ≤ _; exact Nat.le_of_eq rfl) (hb hby d13_1) (by decide) (by decide) (fun v1 T1 h1 L1 X1 e1 q1 => ?_)
  obtain ⟨rfl, M1, s1⟩ := q1
  replace e1 : T1.heap = h0 := e1.trans s1
  have N1 := Fr.app N0 M1
  refine own_go (fun t k => XS.ifNo X1.here hx rfl (hb hby d13_4) rfl ((if0 _ _).trans (feq (by decide : ¬ ((1 : Int32) = (0 : Int32)))).1) k) ?_
  refine own_go (fun t k => XS.aloadN X1.here hx rfl (hb hby d13_7) rfl rfl  k) ?_
  obtain ⟨T2, X2, e2, st2⟩ := getF X1 hx hZ hown (host := "") (Or.inl (hw _ (List.mem_of_getElem? (i := 32) rfl))) Via.refl e1 H7 (g := (mkF m 8 #[.val (.ref a1), .val (.int (0 : Int32))] [(.ref a1)])) rfl rfl (hb hby d13_8)
  refine own_go st2 ?_
  refine own_go (fun t k => XS.iloadN X2.here hx rfl (hb hby d13_11) rfl  k) ?_
  refine own_callS X2 hx hZ (y := (⟨"java/lang/StringLatin1", "charAt", "([BI)C"⟩ : MethodName)) (W := 0) (argsL := [(.ref tx), (.int (0 : Int32))]) (rest := []) hown (hw _ (List.mem_of_getElem? (i := 82) rfl)) (hw _ (List.mem_of_getElem? (i := 83) rfl)) (hw _ (List.mem_of_getElem? (i := 84) rfl)) (hw _ (List.mem_of_getElem? (i := 85) rfl)) (by decide) (own_bk (rm_lc0 l Z a0 hw tx kx _ _ _ g3 h0 n0 H1 H4 hr H9 hy) hZ (hw _ (List.mem_of_getElem? (i := 85) rfl)) (hw _ (List.mem_of_getElem? (i := 84) rfl)) (by decide) (by decide)) e2 (g := (mkF m 12 #[.val (.ref a1), .val (.int (0 : Int32))] [(.int (0 : Int32)), (.ref tx)])) rfl (by rw [hml]; rfl) (lenOf pd_11 rfl) rfl (by show 2 * 0 + _ ≤ _; exact Nat.le_of_eq rfl) (hb hby d13_12) (by decide) (by decide) (fun v3 T3 h3 L3 X3 e3 q3 => ?_)
  obtain ⟨rfl, M3, s3⟩ := q3
  replace e3 : T3.heap = h0 := e3.trans s3
  have N3 := Fr.app N1 M3
  subst hΦ
  exact own_retN X3 hx (t := .char) Bd.returns (by simp) hlk (hb hby d13_15) e3 ⟨(by rw [own_nc hy]), N3, rfl⟩ (by decide) (by decide)
set_option maxRecDepth 65536 in
set_option maxHeartbeats 40000000 in
theorem rm_lc1 (l : Launch) (Z : State) (a0 : Array Value) (hw : ∀ d ∈ tables_1, d.before a0 Z = true) (a1 : Addr) (kx : ClassId) (y0 : Int32) (y1 : Int32) (y2 : Int32) (g3 : Value) (h0 : Heap) (n0 : Nat) (H1 : Old Z n0 h0) (H2 : Sta Z Z.heap "jdk/internal/util/Preconditions" "SIOOBE_FORMATTER" "Ljava/util/function/BiFunction;" g3) (hr : g3.isRef = true) (H4 : Arv Z h0 a1 kx .byte (3 : Int32) [(.int (y0.toInt8.toInt32)), (.int (y1.toInt8.toInt32)), (.int (y2.toInt8.toInt32))] (.int 0)) (hy : 0 ≤ y1.toInt ∧ y1.toInt ≤ 255) :
    own_Met l Z (⟨"java/lang/StringLatin1", "charAt", "([BI)C"⟩ : MethodName) jdk_43_method_2_code 2 (some .char) ({ frames := 2, cells := 0, slots := 0, locals := 27 } : Room) #[(.ref a1), (.int (1 : Int32))] h0 (fun v h L => v = some (.int y1) ∧ Fr n0 L ∧ h = h0) := by
  intro ws
  refine MetFree.of_bodySF (plainFor_of_name pn_c5) hisR ?_
  intro p e s m args below meth c s₁ Bd hml0 hP hK
  obtain ⟨rfl, hZ, hh⟩ := hP
  have hx := Bd.exec
  have hby := Bd.bytes
  have hml : c.maxLocals = 2 := hml0
  have hown : s.vm.findClass "java/lang/StringLatin1" = some m.cls := findClass_of_methodNamed Bd.named
  have hnm := (name_of_methodNamed Bd.named Bd.method).1
  have hlk : meth.locks = false := Bd.notSynchronized
  have X0 : Stand p l e ({ frames := 2, cells := 0, slots := 0, locals := 27 } : Room) s m #[(.ref a1), (.int (1 : Int32))] below meth c s₁ [] 0 0 := Stand.of_body Bd
  have e0 : s₁.heap = h0 := by rw [← hh, Bd.state]; rfl
  have N0 := Fr.nil n0
  refine own_body (Q := fun v h L => v = some (.int y1) ∧ Fr n0 L ∧ h = h0) ?_
  generalize hΦ : own_Fin s below _ _ _ = Φ
  refine own_cast (ef_15_RI m a1 (1 : Int32)) ?_
  show own_Run p e below Φ (s₁.setTop (mkF m 0 #[.val (.ref a1), .val (.int (1 : Int32))] []))
  refine own_go (fun t k => XS.iloadN X0.here hx rfl (hb hby d15_0) rfl  k) ?_
  refine own_go (fun t k => XS.aloadN X0.here hx rfl (hb hby d15_1) rfl rfl  k) ?_
  refine own_arrlen X0 hx hZ e0 H4 (g := (mkF m 2 #[.val (.ref a1), .val (.int (1 : Int32))] [(.ref a1), (.int (1 : Int32))])) rfl rfl (hb hby d15_2) ?_
  refine own_callS X0 hx hZ (y := (⟨"java/lang/String", "checkIndex", "(II)V"⟩ : MethodName)) (W := 0) (argsL := [(.int (1 : Int32)), (.int (3 : Int32))]) (rest := []) hown (hw _ (List.mem_of_getElem? (i := 86) rfl)) (hw _ (List.mem_of_getElem? (i := 87) rfl)) (hw _ (List.mem_of_getElem? (i := 7) rfl)) (hw _ (List.mem_of_getElem? (i := 88) rfl)) (by decide) (own_bk (rm_ck l Z a0 hw (1 : Int32) (3 : Int32) g3 h0 n0 H1 H2 hr (by decide) (by decide)) hZ (hw _ (List.mem_of_getElem? (i := 88) rfl)) (hw _ (List.mem_of_getElem? (i := 7) rfl)) (by decide) (by decide)) e0 (g := (mkF m 3 #[.val (.ref a1), .val (.int (1 : Int32))] [(.int (3 : Int32)), (.int (1 : Int32))])) rfl (by rw [hml]; rfl) (lenOf pd_12 rfl) rfl (by show 2 * 0 + _ ≤ _; exact Nat.le_of_eq rfl) (hb hby d15_3) (by decide) (by decide) (fun v1 T1 h1 L1 X1 e1 q1 => ?_)
  obtain ⟨rfl, M1, s1⟩ := q1
  replace e1 : T1.heap = h0 := e1.trans s1
  have N1 := Fr.app N0 M1
  refine own_go (fun t k => XS.aloadN X1.here hx rfl (hb hby d15_6) rfl rfl  k) ?_
  refine own_go (fun t k => XS.iloadN X1.here hx rfl (hb hby d15_7) rfl  k) ?_
  refine own_baload X1 hx hZ e1 H4 (j := (1 : Int32)) (v := (.int (y1.toInt8.toInt32))) ⟨by decide, by decide⟩ rfl (g := (mkF m 8 #[.val (.ref a1), .val (.int (1 : Int32))] [(.int (1 : Int32)), (.ref a1)])) rfl rfl (hb hby d15_8) ?_
  refine own_go (fun t k => XS.sipush X1.here hx rfl (hb hby d15_9) k) ?_
  refine own_go (fun t k => XS.iand X1.here hx rfl (hb hby d15_12) rfl k) ?_
  show own_Run p e below Φ (T1.setTop (mkF m 13 #[.val (.ref a1), .val (.int (1 : Int32))] [(.int ((y1.toInt8.toInt32) &&& (255 : Int32)))]))
  refine own_go (fun t k => XS.i2c X1.here hx rfl (hb hby d15_13) rfl k) ?_
  subst hΦ
  exact own_retN X1 hx (t := .char) Bd.returns (by simp) hlk (hb hby d15_14) e1 ⟨(by rw [own_by hy]), N1, rfl⟩ (by decide) (by decide)
set_option maxRecDepth 65536 in
set_option maxHeartbeats 40000000 in
theorem rm_ch1 (l : Launch) (Z : State) (a0 : Array Value) (hw : ∀ d ∈ tables_1, d.before a0 Z = true) (a1 : Addr) (g1 : Int32) (g3 : Value) (tx : Addr) (kx : ClassId) (y0 : Int32) (y1 : Int32) (y2 : Int32) (h0 : Heap) (n0 : Nat) (H1 : Old Z n0 h0) (H2 : Sta Z Z.heap "java/lang/String" "COMPACT_STRINGS" "Z" (.int g1)) (hg5 : ¬ (g1 = (0 : Int32))) (H4 : Sta Z Z.heap "jdk/internal/util/Preconditions" "SIOOBE_FORMATTER" "Ljava/util/function/BiFunction;" g3) (hr : g3.isRef = true) (H6 : Exa Z h0 a1 "java/lang/String") (H7 : Fld Z h0 a1 "java/lang/String" "value" "[B" (.ref tx)) (H8 : Fld Z h0 a1 "java/lang/String" "coder" "B" (.int (0 : Int32))) (H9 : Arv Z h0 tx kx .byte (3 : Int32) [(.int (y0.toInt8.toInt32)), (.int (y1.toInt8.toInt32)), (.int (y2.toInt8.toInt32))] (.int 0)) (hy : 0 ≤ y1.toInt ∧ y1.toInt ≤ 255) :
    own_Met l Z (⟨"java/lang/String", "charAt", "(I)C"⟩ : MethodName) jdk_42_method_56_code 2 (some .char) ({ frames := 3, cells := 0, slots := 0, locals := 40 } : Room) #[(.ref a1), (.int (1 : Int32))] h0 (fun v h L => v = some (.int y1) ∧ Fr n0 L ∧ h = h0) := by
  intro ws
  refine MetFree.of_bodySF (plainFor_of_name pn_c1) hisR ?_
  intro p e s m args below meth c s₁ Bd hml0 hP hK
  obtain ⟨rfl, hZ, hh⟩ := hP
  have hx := Bd.exec
  have hby := Bd.bytes
  have hml : c.maxLocals = 2 := hml0
  have hown : s.vm.findClass "java/lang/String" = some m.cls := findClass_of_methodNamed Bd.named
  have hnm := (name_of_methodNamed Bd.named Bd.method).1
  have hlk : meth.locks = false := Bd.notSynchronized
  have X0 : Stand p l e ({ frames := 3, cells := 0, slots := 0, locals := 40 } : Room) s m #[(.ref a1), (.int (1 : Int32))] below meth c s₁ [] 0 0 := Stand.of_body Bd
  have e0 : s₁.heap = h0 := by rw [← hh, Bd.state]; rfl
  have N0 := Fr.nil n0
  refine own_body (Q := fun v h L => v = some (.int y1) ∧ Fr n0 L ∧ h = h0) ?_
  generalize hΦ : own_Fin s below _ _ _ = Φ
  refine own_cast (ef_13_RI m a1 (1 : Int32)) ?_
  show own_Run p e below Φ (s₁.setTop (mkF m 0 #[.val (.ref a1), .val (.int (1 : Int32))] []))
  refine own_go (fun t k => XS.aloadN X0.here hx rfl (hb hby d13_0) rfl rfl  k) ?_
  refine own_callV X0 hx hZ (y := (⟨"java/lang/String", "isLatin1", "()Z"⟩ : MethodName)) (z := (⟨"java/lang/String", "isLatin1", "()Z"⟩ : MethodName)) (W := 0) (a := a1) (argsL := []) (rest := []) hown (hw _ (List.mem_of_getElem? (i := 77) rfl)) (hw _ (List.mem_of_getElem? (i := 78) rfl)) (notFace_of_selects (args := #[]) (mvT hZ (hw _ (List.mem_of_getElem? (i := 80) rfl)))) (hw _ (List.mem_of_getElem? (i := 80) rfl)) (hw _ (List.mem_of_getElem? (i := 79) rfl)) (by decide) (own_bk (rm_il l Z a0 hw a1 g1 h0 n0 H1 H2 hg5 H8) hZ (hw _ (List.mem_of_getElem? (i := 81) rfl)) (hw _ (List.mem_of_getElem? (i := 7) rfl)) (by decide) (by decide)) e0 H6 (g := (mkF m 1 #[.val (.ref a1), .val (.int (1 : Int32))] [(.ref a1)])) rfl (by rw [hml]; rfl) (lenOf pd_8 rfl) rfl (by show 2 * 0 + _ ≤ _; exact Nat.le_of_eq rfl) (hb hby d13_1) (by decide) (by decide) (fun v1 T1 h1 L1 X1 e1 q1 => ?_)
  obtain ⟨rfl, M1, s1⟩ := q1
  replace e1 : T1.heap = h0 := e1.trans s1
  have N1 := Fr.app N0 M1
  refine own_go (fun t k => XS.ifNo X1.here hx rfl (hb hby d13_4) rfl ((if0 _ _).trans (feq (by decide : ¬ ((1 : Int32) = (0 : Int32)))).1) k) ?_
  refine own_go (fun t k => XS.aloadN X1.here hx rfl (hb hby d13_7) rfl rfl  k) ?_
  obtain ⟨T2, X2, e2, st2⟩ := getF X1 hx hZ hown (host := "") (Or.inl (hw _ (List.mem_of_getElem? (i := 32) rfl))) Via.refl e1 H7 (g := (mkF m 8 #[.val (.ref a1), .val (.int (1 : Int32))] [(.ref a1)])) rfl rfl (hb hby d13_8)
  refine own_go st2 ?_
  refine own_go (fun t k => XS.iloadN X2.here hx rfl (hb hby d13_11) rfl  k) ?_
  refine own_callS X2 hx hZ (y := (⟨"java/lang/StringLatin1", "charAt", "([BI)C"⟩ : MethodName)) (W := 0) (argsL := [(.ref tx), (.int (1 : Int32))]) (rest := []) hown (hw _ (List.mem_of_getElem? (i := 82) rfl)) (hw _ (List.mem_of_getElem? (i := 83) rfl)) (hw _ (List.mem_of_getElem? (i := 84) rfl)) (hw _ (List.mem_of_getElem? (i := 85) rfl)) (by decide) (own_bk (rm_lc1 l Z a0 hw tx kx _ _ _ g3 h0 n0 H1 H4 hr H9 hy) hZ (hw _ (List.mem_of_getElem? (i := 85) rfl)) (hw _ (List.mem_of_getElem? (i := 84) rfl)) (by decide) (by decide)) e2 (g := (mkF m 12 #[.val (.ref a1), .val (.int (1 : Int32))] [(.int (1 : Int32)), (.ref tx)])) rfl (by rw [hml]; rfl) (lenOf pd_11 rfl) rfl (by show 2 * 0 + _ ≤ _; exact Nat.le_of_eq rfl) (hb hby d13_12) (by decide) (by decide) (fun v3 T3 h3 L3 X3 e3 q3 => ?_)
  obtain ⟨rfl, M3, s3⟩ := q3
  replace e3 : T3.heap = h0 := e3.trans s3
  have N3 := Fr.app N1 M3
  subst hΦ
  exact own_retN X3 hx (t := .char) Bd.returns (by simp) hlk (hb hby d13_15) e3 ⟨(by rw [own_nc hy]), N3, rfl⟩ (by decide) (by decide)
set_option maxRecDepth 65536 in
set_option maxHeartbeats 40000000 in
theorem rm_lc2 (l : Launch) (Z : State) (a0 : Array Value) (hw : ∀ d ∈ tables_1, d.before a0 Z = true) (a1 : Addr) (kx : ClassId) (y0 : Int32) (y1 : Int32) (y2 : Int32) (g3 : Value) (h0 : Heap) (n0 : Nat) (H1 : Old Z n0 h0) (H2 : Sta Z Z.heap "jdk/internal/util/Preconditions" "SIOOBE_FORMATTER" "Ljava/util/function/BiFunction;" g3) (hr : g3.isRef = true) (H4 : Arv Z h0 a1 kx .byte (3 : Int32) [(.int (y0.toInt8.toInt32)), (.int (y1.toInt8.toInt32)), (.int (y2.toInt8.toInt32))] (.int 0)) (hy : 0 ≤ y2.toInt ∧ y2.toInt ≤ 255) :
    own_Met l Z (⟨"java/lang/StringLatin1", "charAt", "([BI)C"⟩ : MethodName) jdk_43_method_2_code 2 (some .char) ({ frames := 2, cells := 0, slots := 0, locals := 27 } : Room) #[(.ref a1), (.int (2 : Int32))] h0 (fun v h L => v = some (.int y2) ∧ Fr n0 L ∧ h = h0) := by
  intro ws
  refine MetFree.of_bodySF (plainFor_of_name pn_c5) hisR ?_
  intro p e s m args below meth c s₁ Bd hml0 hP hK
  obtain ⟨rfl, hZ, hh⟩ := hP
  have hx := Bd.exec
  have hby := Bd.bytes
  have hml : c.maxLocals = 2 := hml0
  have hown : s.vm.findClass "java/lang/StringLatin1" = some m.cls := findClass_of_methodNamed Bd.named
  have hnm := (name_of_methodNamed Bd.named Bd.method).1
  have hlk : meth.locks = false := Bd.notSynchronized
  have X0 : Stand p l e ({ frames := 2, cells := 0, slots := 0, locals := 27 } : Room) s m #[(.ref a1), (.int (2 : Int32))] below meth c s₁ [] 0 0 := Stand.of_body Bd
  have e0 : s₁.heap = h0 := by rw [← hh, Bd.state]; rfl
  have N0 := Fr.nil n0
  refine own_body (Q := fun v h L => v = some (.int y2) ∧ Fr n0 L ∧ h = h0) ?_
  generalize hΦ : own_Fin s below _ _ _ = Φ
  refine own_cast (ef_15_RI m a1 (2 : Int32)) ?_
  show own_Run p e below Φ (s₁.setTop (mkF m 0 #[.val (.ref a1), .val (.int (2 : Int32))] []))
  refine own_go (fun t k => XS.iloadN X0.here hx rfl (hb hby d15_0) rfl  k) ?_
  refine own_go (fun t k => XS.aloadN X0.here hx rfl (hb hby d15_1) rfl rfl  k) ?_
  refine own_arrlen X0 hx hZ e0 H4 (g := (mkF m 2 #[.val (.ref a1), .val (.int (2 : Int32))] [(.ref a1), (.int (2 : Int32))])) rfl rfl (hb hby d15_2) ?_
  refine own_callS X0 hx hZ (y := (⟨"java/lang/String", "checkIndex", "(II)V"⟩ : MethodName)) (W := 0) (argsL := [(.int (2 : Int32)), (.int (3 : Int32))]) (rest := []) hown (hw _ (List.mem_of_getElem? (i := 86) rfl)) (hw _ (List.mem_of_getElem? (i := 87) rfl)) (hw _ (List.mem_of_getElem? (i := 7) rfl)) (hw _ (List.mem_of_getElem? (i := 88) rfl)) (by decide) (own_bk (rm_ck l Z a0 hw (2 : Int32) (3 : Int32) g3 h0 n0 H1 H2 hr (by decide) (by decide)) hZ (hw _ (List.mem_of_getElem? (i := 88) rfl)) (hw _ (List.mem_of_getElem? (i := 7) rfl)) (by decide) (by decide)) e0 (g := (mkF m 3 #[.val (.ref a1), .val (.int (2 : Int32))] [(.int (3 : Int32)), (.int (2 : Int32))])) rfl (by rw [hml]; rfl) (lenOf pd_12 rfl) rfl (by show 2 * 0 + _ ≤ _; exact Nat.le_of_eq rfl) (hb hby d15_3) (by decide) (by decide) (fun v1 T1 h1 L1 X1 e1 q1 => ?_)
  obtain ⟨rfl, M1, s1⟩ := q1
  replace e1 : T1.heap = h0 := e1.trans s1
  have N1 := Fr.app N0 M1
  refine own_go (fun t k => XS.aloadN X1.here hx rfl (hb hby d15_6) rfl rfl  k) ?_
  refine own_go (fun t k => XS.iloadN X1.here hx rfl (hb hby d15_7) rfl  k) ?_
  refine own_baload X1 hx hZ e1 H4 (j := (2 : Int32)) (v := (.int (y2.toInt8.toInt32))) ⟨by decide, by decide⟩ rfl (g := (mkF m 8 #[.val (.ref a1), .val (.int (2 : Int32))] [(.int (2 : Int32)), (.ref a1)])) rfl rfl (hb hby d15_8) ?_
  refine own_go (fun t k => XS.sipush X1.here hx rfl (hb hby d15_9) k) ?_
  refine own_go (fun t k => XS.iand X1.here hx rfl (hb hby d15_12) rfl k) ?_
  show own_Run p e below Φ (T1.setTop (mkF m 13 #[.val (.ref a1), .val (.int (2 : Int32))] [(.int ((y2.toInt8.toInt32) &&& (255 : Int32)))]))
  refine own_go (fun t k => XS.i2c X1.here hx rfl (hb hby d15_13) rfl k) ?_
  subst hΦ
  exact own_retN X1 hx (t := .char) Bd.returns (by simp) hlk (hb hby d15_14) e1 ⟨(by rw [own_by hy]), N1, rfl⟩ (by decide) (by decide)
set_option maxRecDepth 65536 in
set_option maxHeartbeats 40000000 in
theorem rm_ch2 (l : Launch) (Z : State) (a0 : Array Value) (hw : ∀ d ∈ tables_1, d.before a0 Z = true) (a1 : Addr) (g1 : Int32) (g3 : Value) (tx : Addr) (kx : ClassId) (y0 : Int32) (y1 : Int32) (y2 : Int32) (h0 : Heap) (n0 : Nat) (H1 : Old Z n0 h0) (H2 : Sta Z Z.heap "java/lang/String" "COMPACT_STRINGS" "Z" (.int g1)) (hg5 : ¬ (g1 = (0 : Int32))) (H4 : Sta Z Z.heap "jdk/internal/util/Preconditions" "SIOOBE_FORMATTER" "Ljava/util/function/BiFunction;" g3) (hr : g3.isRef = true) (H6 : Exa Z h0 a1 "java/lang/String") (H7 : Fld Z h0 a1 "java/lang/String" "value" "[B" (.ref tx)) (H8 : Fld Z h0 a1 "java/lang/String" "coder" "B" (.int (0 : Int32))) (H9 : Arv Z h0 tx kx .byte (3 : Int32) [(.int (y0.toInt8.toInt32)), (.int (y1.toInt8.toInt32)), (.int (y2.toInt8.toInt32))] (.int 0)) (hy : 0 ≤ y2.toInt ∧ y2.toInt ≤ 255) :
    own_Met l Z (⟨"java/lang/String", "charAt", "(I)C"⟩ : MethodName) jdk_42_method_56_code 2 (some .char) ({ frames := 3, cells := 0, slots := 0, locals := 40 } : Room) #[(.ref a1), (.int (2 : Int32))] h0 (fun v h L => v = some (.int y2) ∧ Fr n0 L ∧ h = h0) := by
  intro ws
  refine MetFree.of_bodySF (plainFor_of_name pn_c1) hisR ?_
  intro p e s m args below meth c s₁ Bd hml0 hP hK
  obtain ⟨rfl, hZ, hh⟩ := hP
  have hx := Bd.exec
  have hby := Bd.bytes
  have hml : c.maxLocals = 2 := hml0
  have hown : s.vm.findClass "java/lang/String" = some m.cls := findClass_of_methodNamed Bd.named
  have hnm := (name_of_methodNamed Bd.named Bd.method).1
  have hlk : meth.locks = false := Bd.notSynchronized
  have X0 : Stand p l e ({ frames := 3, cells := 0, slots := 0, locals := 40 } : Room) s m #[(.ref a1), (.int (2 : Int32))] below meth c s₁ [] 0 0 := Stand.of_body Bd
  have e0 : s₁.heap = h0 := by rw [← hh, Bd.state]; rfl
  have N0 := Fr.nil n0
  refine own_body (Q := fun v h L => v = some (.int y2) ∧ Fr n0 L ∧ h = h0) ?_
  generalize hΦ : own_Fin s below _ _ _ = Φ
  refine own_cast (ef_13_RI m a1 (2 : Int32)) ?_
  show own_Run p e below Φ (s₁.setTop (mkF m 0 #[.val (.ref a1), .val (.int (2 : Int32))] []))
  refine own_go (fun t k => XS.aloadN X0.here hx rfl (hb hby d13_0) rfl rfl  k) ?_
  refine own_callV X0 hx hZ (y := (⟨"java/lang/String", "isLatin1", "()Z"⟩ : MethodName)) (z := (⟨"java/lang/String", "isLatin1", "()Z"⟩ : MethodName)) (W := 0) (a := a1) (argsL := []) (rest := []) hown (hw _ (List.mem_of_getElem? (i := 77) rfl)) (hw _ (List.mem_of_getElem? (i := 78) rfl)) (notFace_of_selects (args := #[]) (mvT hZ (hw _ (List.mem_of_getElem? (i := 80) rfl)))) (hw _ (List.mem_of_getElem? (i := 80) rfl)) (hw _ (List.mem_of_getElem? (i := 79) rfl)) (by decide) (own_bk (rm_il l Z a0 hw a1 g1 h0 n0 H1 H2 hg5 H8) hZ (hw _ (List.mem_of_getElem? (i := 81) rfl)) (hw _ (List.mem_of_getElem? (i := 7) rfl)) (by decide) (by decide)) e0 H6 (g := (mkF m 1 #[.val (.ref a1), .val (.int (2 : Int32))] [(.ref a1)])) rfl (by rw [hml]; rfl) (lenOf pd_8 rfl) rfl (by show 2 * 0 + _ ≤ _; exact Nat.le_of_eq rfl) (hb hby d13_1) (by decide) (by decide) (fun v1 T1 h1 L1 X1 e1 q1 => ?_)
  obtain ⟨rfl, M1, s1⟩ := q1
  replace e1 : T1.heap = h0 := e1.trans s1
  have N1 := Fr.app N0 M1
  refine own_go (fun t k => XS.ifNo X1.here hx rfl (hb hby d13_4) rfl ((if0 _ _).trans (feq (by decide : ¬ ((1 : Int32) = (0 : Int32)))).1) k) ?_
  refine own_go (fun t k => XS.aloadN X1.here hx rfl (hb hby d13_7) rfl rfl  k) ?_
  obtain ⟨T2, X2, e2, st2⟩ := getF X1 hx hZ hown (host := "") (Or.inl (hw _ (List.mem_of_getElem? (i := 32) rfl))) Via.refl e1 H7 (g := (mkF m 8 #[.val (.ref a1), .val (.int (2 : Int32))] [(.ref a1)])) rfl rfl (hb hby d13_8)
  refine own_go st2 ?_
  refine own_go (fun t k => XS.iloadN X2.here hx rfl (hb hby d13_11) rfl  k) ?_
  refine own_callS X2 hx hZ (y := (⟨"java/lang/StringLatin1", "charAt", "([BI)C"⟩ : MethodName)) (W := 0) (argsL := [(.ref tx), (.int (2 : Int32))]) (rest := []) hown (hw _ (List.mem_of_getElem? (i := 82) rfl)) (hw _ (List.mem_of_getElem? (i := 83) rfl)) (hw _ (List.mem_of_getElem? (i := 84) rfl)) (hw _ (List.mem_of_getElem? (i := 85) rfl)) (by decide) (own_bk (rm_lc2 l Z a0 hw tx kx _ _ _ g3 h0 n0 H1 H4 hr H9 hy) hZ (hw _ (List.mem_of_getElem? (i := 85) rfl)) (hw _ (List.mem_of_getElem? (i := 84) rfl)) (by decide) (by decide)) e2 (g := (mkF m 12 #[.val (.ref a1), .val (.int (2 : Int32))] [(.int (2 : Int32)), (.ref tx)])) rfl (by rw [hml]; rfl) (lenOf pd_11 rfl) rfl (by show 2 * 0 + _ ≤ _; exact Nat.le_of_eq rfl) (hb hby d13_12) (by decide) (by decide) (fun v3 T3 h3 L3 X3 e3 q3 => ?_)
  obtain ⟨rfl, M3, s3⟩ := q3
  replace e3 : T3.heap = h0 := e3.trans s3
  have N3 := Fr.app N1 M3
  subst hΦ
  exact own_retN X3 hx (t := .char) Bd.returns (by simp) hlk (hb hby d13_15) e3 ⟨(by rw [own_nc hy]), N3, rfl⟩ (by decide) (by decide)
theorem d8_0 : decode prog_26_method_1_code 0 = .ok (.aload_n 0, 1) := by decide +kernel
theorem d8_1 : decode prog_26_method_1_code 1 = .ok (.invokespecial 3, 3) := by decide +kernel
theorem d8_4 : decode prog_26_method_1_code 4 = .ok (.aload_n 0, 1) := by decide +kernel
theorem d8_5 : decode prog_26_method_1_code 5 = .ok (.ldc 9, 2) := by decide +kernel
theorem d8_7 : decode prog_26_method_1_code 7 = .ok (.putfield 11, 3) := by decide +kernel
theorem d8_10 : decode prog_26_method_1_code 10 = .ok (.return_, 1) := by decide +kernel
theorem ef_8_R (m : MethodId) (x0 : Addr) : entryFrame m #[(.ref x0)] 1 = mkF m 0 #[.val (.ref x0)] [] := by first | (simp [entryFrame, mkF, argsToLocals, Value.category]; done) | rfl
set_option maxRecDepth 65536 in
set_option maxHeartbeats 40000000 in
theorem rm_fi (l : Launch) (Z : State) (a0 : Array Value) (hw : ∀ d ∈ tables_1, d.before a0 Z = true) (a1 : Addr) (h0 : Heap) (n0 : Nat) (H1 : Exa Z h0 a1 "com/example/profitmine/profitmine/io/Fields") (H2 : Fld Z h0 a1 "com/example/profitmine/profitmine/io/Fields" "line" "Ljava/lang/String;" .null) (H3 : Fld Z h0 a1 "com/example/profitmine/profitmine/io/Fields" "count" "I" (.int (0 : Int32))) (H4 : Fld Z h0 a1 "com/example/profitmine/profitmine/io/Fields" "start" "I" (.int (0 : Int32))) (H5 : Fld Z h0 a1 "com/example/profitmine/profitmine/io/Fields" "end" "I" (.int (0 : Int32))) (H6 : n0 ≤ a1) (H7 : n0 ≤ h0.size) :
    own_MetW l Z (⟨"com/example/profitmine/profitmine/io/Fields", "<init>", "()V"⟩ : MethodName) prog_26_method_1_code 1 none ({ frames := 1, cells := 2, slots := 4, locals := 12 } : Room) #[(.ref a1)] h0 (fun v h L => v = none ∧ Fr n0 L ∧ Keep h0 h [a1] ∧ Fld Z h a1 "com/example/profitmine/profitmine/io/Fields" "count" "I" (.int (0 : Int32)) ∧ Fld Z h a1 "com/example/profitmine/profitmine/io/Fields" "start" "I" (.int (0 : Int32)) ∧ Fld Z h a1 "com/example/profitmine/profitmine/io/Fields" "end" "I" (.int (0 : Int32)) ∧ ∃ lx : Addr, Fld Z h a1 "com/example/profitmine/profitmine/io/Fields" "line" "Ljava/lang/String;" (.ref lx)) := by
  intro ws
  refine MetFree.of_bodySF (plainFor_of_name pn_c4) hisR ?_
  intro p e s m args below meth c s₁ Bd hml0 hP hK
  obtain ⟨rfl, hZ, hh⟩ := hP
  have hx := Bd.exec
  have hby := Bd.bytes
  have hml : c.maxLocals = 1 := hml0
  have hown : s.vm.findClass "com/example/profitmine/profitmine/io/Fields" = some m.cls := findClass_of_methodNamed Bd.named
  have hnm := (name_of_methodNamed Bd.named Bd.method).1
  have hlk : meth.locks = false := Bd.notSynchronized
  have X0 : Stand p l e ({ frames := 1, cells := 2, slots := 4, locals := 12 } : Room) s m #[(.ref a1)] below meth c s₁ [] 0 0 := Stand.of_body Bd
  have e0 : s₁.heap = h0 := by rw [← hh, Bd.state]; rfl
  obtain ⟨vm0, ky0, X0, hZ, hown, hS0, Y0⟩ := own_reb X0 hZ hown e0
  have N0 := Fr.nil n0
  refine own_bodyW (Q := fun v h L => v = none ∧ Fr n0 L ∧ Keep h0 h [a1] ∧ Fld Z h a1 "com/example/profitmine/profitmine/io/Fields" "count" "I" (.int (0 : Int32)) ∧ Fld Z h a1 "com/example/profitmine/profitmine/io/Fields" "start" "I" (.int (0 : Int32)) ∧ Fld Z h a1 "com/example/profitmine/profitmine/io/Fields" "end" "I" (.int (0 : Int32)) ∧ ∃ lx : Addr, Fld Z h a1 "com/example/profitmine/profitmine/io/Fields" "line" "Ljava/lang/String;" (.ref lx)) ?_
  generalize hΦ : own_FinW s below _ _ _ = Φ
  refine own_cast (ef_8_R m a1) ?_
  have K0 := Keep.refl h0 [a1]
  show own_Run p e below Φ (s₁.setTop (mkF m 0 #[.val (.ref a1)] []))
  refine own_go (fun t k => XS.aloadN X0.here hx rfl (hb hby d8_0) rfl rfl  k) ?_
  obtain ⟨T1, X1, e1, st1⟩ := initO X0 hx hZ hown (hw _ (List.mem_of_getElem? (i := 40) rfl)) (hw _ (List.mem_of_getElem? (i := 16) rfl)) (hw _ (List.mem_of_getElem? (i := 17) rfl)) e0 (g := (mkF m 1 #[.val (.ref a1)] [(.ref a1)])) rfl (by rw [hml]; rfl) rfl (hb hby d8_1) (by decide) (W := 0) (by show 2 * 0 + _ ≤ _; exact Nat.le_of_eq rfl) (by decide)
  refine own_go st1 ?_
  refine own_go (fun t k => XS.aloadN X1.here hx rfl (hb hby d8_4) rfl rfl  k) ?_
  refine own_ldcS X1 hx hZ hown hS0 Y0 (hw _ (List.mem_of_getElem? (i := 41) rfl)) (fun d hd => hw d (own_sa d hd)) e1 (g := (mkF m 5 #[.val (.ref a1)] [(.ref a1)])) rfl (hb hby d8_5) 0 (by decide) (by decide) (by decide) (by decide) (fun ls2 T2 h2 vm2 ky2 X2 e2 E2 hZ hown hS2 Y2 => ?_)
  have F3 : Fld Z h2 a1 "com/example/profitmine/profitmine/io/Fields" "line" "Ljava/lang/String;" .null := (H2.ext E2)
  have F4 : Exa Z h2 a1 "com/example/profitmine/profitmine/io/Fields" := (H1.ext E2)
  obtain ⟨T5, h5, X5, e5, W5, st5⟩ := putF X2 hx hZ hown (host := "") (Or.inl (hw _ (List.mem_of_getElem? (i := 44) rfl))) Via.refl e2 F3 F4 (Or.inl (hw _ (List.mem_of_getElem? (i := 45) rfl))) (hw _ (List.mem_of_getElem? (i := 35) rfl)) (ty := (.object "java/lang/String")) (by decide) rfl rfl (g := (mkF m 7 #[.val (.ref a1)] [(.ref ls2), (.ref a1)])) rfl rfl (hb hby d8_7)
  refine own_go st5 ?_
  have G5 : Fld Z h5 a1 "com/example/profitmine/profitmine/io/Fields" "line" "Ljava/lang/String;" (.ref ls2) := F3.same W5
  have N5 := Fr.snoc X5 N0 H6
  have F6 : Keep h0 h5 [a1] := ((K0.ext E2).wr W5 (Or.inl (List.mem_of_getElem? (i := 0) rfl)))
  have F7 : Fld Z h5 a1 "com/example/profitmine/profitmine/io/Fields" "count" "I" (.int (0 : Int32)) := ((H3.ext E2).other W5 (Or.inr (slot_ne (Or.inl (hw _ (List.mem_of_getElem? (i := 52) rfl))) (Or.inl (hw _ (List.mem_of_getElem? (i := 45) rfl))) (by decide) (t := .int) (t' := (.object "java/lang/String")) (by decide) (by decide))))
  have F8 : Fld Z h5 a1 "com/example/profitmine/profitmine/io/Fields" "start" "I" (.int (0 : Int32)) := ((H4.ext E2).other W5 (Or.inr (slot_ne (Or.inl (hw _ (List.mem_of_getElem? (i := 54) rfl))) (Or.inl (hw _ (List.mem_of_getElem? (i := 45) rfl))) (by decide) (t := .int) (t' := (.object "java/lang/String")) (by decide) (by decide))))
  have F9 : Fld Z h5 a1 "com/example/profitmine/profitmine/io/Fields" "end" "I" (.int (0 : Int32)) := ((H5.ext E2).other W5 (Or.inr (slot_ne (Or.inl (hw _ (List.mem_of_getElem? (i := 56) rfl))) (Or.inl (hw _ (List.mem_of_getElem? (i := 45) rfl))) (by decide) (t := .int) (t' := (.object "java/lang/String")) (by decide) (by decide))))
  have F10 : ky2 ≤ h5.size := (Nat.le_trans Y2 (Keep.of_wr W5).1)
  subst hΦ
  exact own_retVW X5 hx Bd.returns hlk (hb hby d8_10) e5 hS2 F10 ⟨rfl, N5, F6, F7, F8, F9, ⟨_, G5⟩⟩ (by decide) (by decide)
theorem d9_0 : decode prog_26_method_2_code 0 = .ok (.aload_n 0, 1) := by decide +kernel
theorem d9_1 : decode prog_26_method_2_code 1 = .ok (.aload_n 1, 1) := by decide +kernel
theorem d9_2 : decode prog_26_method_2_code 2 = .ok (.putfield 11, 3) := by decide +kernel
theorem d9_5 : decode prog_26_method_2_code 5 = .ok (.aload_n 0, 1) := by decide +kernel
theorem d9_6 : decode prog_26_method_2_code 6 = .ok (.iconst 0, 1) := by decide +kernel
theorem d9_7 : decode prog_26_method_2_code 7 = .ok (.putfield 17, 3) := by decide +kernel
theorem d9_10 : decode prog_26_method_2_code 10 = .ok (.aload_n 0, 1) := by decide +kernel
theorem d9_11 : decode prog_26_method_2_code 11 = .ok (.iconst 0, 1) := by decide +kernel
theorem d9_12 : decode prog_26_method_2_code 12 = .ok (.putfield 21, 3) := by decide +kernel
theorem d9_15 : decode prog_26_method_2_code 15 = .ok (.aload_n 0, 1) := by decide +kernel
theorem d9_16 : decode prog_26_method_2_code 16 = .ok (.iconst 0, 1) := by decide +kernel
theorem d9_17 : decode prog_26_method_2_code 17 = .ok (.putfield 24, 3) := by decide +kernel
theorem d9_20 : decode prog_26_method_2_code 20 = .ok (.return_, 1) := by decide +kernel
theorem ef_9_RR (m : MethodId) (x0 : Addr) (x1 : Addr) : entryFrame m #[(.ref x0), (.ref x1)] 2 = mkF m 0 #[.val (.ref x0), .val (.ref x1)] [] := by first | (simp [entryFrame, mkF, argsToLocals, Value.category]; done) | rfl
set_option maxRecDepth 65536 in
set_option maxHeartbeats 40000000 in
theorem rm_wk (l : Launch) (Z : State) (a0 : Array Value) (hw : ∀ d ∈ tables_1, d.before a0 Z = true) (a1 : Addr) (a2 : Addr) (l0 : Addr) (n1 : Int32) (n2 : Int32) (n3 : Int32) (h0 : Heap) (n0 : Nat) (H1 : Exa Z h0 a1 "com/example/profitmine/profitmine/io/Fields") (H2 : Fld Z h0 a1 "com/example/profitmine/profitmine/io/Fields" "line" "Ljava/lang/String;" (.ref l0)) (H3 : Fld Z h0 a1 "com/example/profitmine/profitmine/io/Fields" "count" "I" (.int n1)) (H4 : Fld Z h0 a1 "com/example/profitmine/profitmine/io/Fields" "start" "I" (.int n2)) (H5 : Fld Z h0 a1 "com/example/profitmine/profitmine/io/Fields" "end" "I" (.int n3)) (H6 : n0 ≤ a1) :
    own_Met l Z (⟨"com/example/profitmine/profitmine/io/Fields", "walk", "(Ljava/lang/String;)V"⟩ : MethodName) prog_26_method_2_code 2 none ({ frames := 0, cells := 0, slots := 0, locals := 0 } : Room) #[(.ref a1), (.ref a2)] h0 (fun v h L => v = none ∧ Fr n0 L ∧ Keep h0 h [a1] ∧ Fld Z h a1 "com/example/profitmine/profitmine/io/Fields" "line" "Ljava/lang/String;" (.ref a2) ∧ Fld Z h a1 "com/example/profitmine/profitmine/io/Fields" "count" "I" (.int (0 : Int32)) ∧ Fld Z h a1 "com/example/profitmine/profitmine/io/Fields" "start" "I" (.int (0 : Int32)) ∧ Fld Z h a1 "com/example/profitmine/profitmine/io/Fields" "end" "I" (.int (0 : Int32))) := by
  intro ws
  refine MetFree.of_bodySF (plainFor_of_name pn_c4) hisR ?_
  intro p e s m args below meth c s₁ Bd hml0 hP hK
  obtain ⟨rfl, hZ, hh⟩ := hP
  have hx := Bd.exec
  have hby := Bd.bytes
  have hml : c.maxLocals = 2 := hml0
  have hown : s.vm.findClass "com/example/profitmine/profitmine/io/Fields" = some m.cls := findClass_of_methodNamed Bd.named
  have hnm := (name_of_methodNamed Bd.named Bd.method).1
  have hlk : meth.locks = false := Bd.notSynchronized
  have X0 : Stand p l e ({ frames := 0, cells := 0, slots := 0, locals := 0 } : Room) s m #[(.ref a1), (.ref a2)] below meth c s₁ [] 0 0 := Stand.of_body Bd
  have e0 : s₁.heap = h0 := by rw [← hh, Bd.state]; rfl
  have N0 := Fr.nil n0
  refine own_body (Q := fun v h L => v = none ∧ Fr n0 L ∧ Keep h0 h [a1] ∧ Fld Z h a1 "com/example/profitmine/profitmine/io/Fields" "line" "Ljava/lang/String;" (.ref a2) ∧ Fld Z h a1 "com/example/profitmine/profitmine/io/Fields" "count" "I" (.int (0 : Int32)) ∧ Fld Z h a1 "com/example/profitmine/profitmine/io/Fields" "start" "I" (.int (0 : Int32)) ∧ Fld Z h a1 "com/example/profitmine/profitmine/io/Fields" "end" "I" (.int (0 : Int32))) ?_
  generalize hΦ : own_Fin s below _ _ _ = Φ
  refine own_cast (ef_9_RR m a1 a2) ?_
  have K0 := Keep.refl h0 [a1]
  show own_Run p e below Φ (s₁.setTop (mkF m 0 #[.val (.ref a1), .val (.ref a2)] []))
  refine own_go (fun t k => XS.aloadN X0.here hx rfl (hb hby d9_0) rfl rfl  k) ?_
  refine own_go (fun t k => XS.aloadN X0.here hx rfl (hb hby d9_1) rfl rfl  k) ?_
  obtain ⟨T1, h1, X1, e1, W1, st1⟩ := putF X0 hx hZ hown (host := "") (Or.inl (hw _ (List.mem_of_getElem? (i := 44) rfl))) Via.refl e0 H2 H1 (Or.inl (hw _ (List.mem_of_getElem? (i := 45) rfl))) (hw _ (List.mem_of_getElem? (i := 35) rfl)) (ty := (.object "java/lang/String")) (by decide) rfl rfl (g := (mkF m 2 #[.val (.ref a1), .val (.ref a2)] [(.ref a2), (.ref a1)])) rfl rfl (hb hby d9_2)
  refine own_go st1 ?_
  have G1 : Fld Z h1 a1 "com/example/profitmine/profitmine/io/Fields" "line" "Ljava/lang/String;" (.ref a2) := H2.same W1
  have N1 := Fr.snoc X1 N0 H6
  refine own_go (fun t k => XS.aloadN X1.here hx rfl (hb hby d9_5) rfl rfl  k) ?_
  refine own_go (fun t k => XS.iconst X1.here hx rfl (hb hby d9_6) k) ?_
  have F2 : Fld Z h1 a1 "com/example/profitmine/profitmine/io/Fields" "count" "I" (.int n1) := (H3.other W1 (Or.inr (slot_ne (Or.inl (hw _ (List.mem_of_getElem? (i := 52) rfl))) (Or.inl (hw _ (List.mem_of_getElem? (i := 45) rfl))) (by decide) (t := .int) (t' := (.object "java/lang/String")) (by decide) (by decide))))
  have F3 : Exa Z h1 a1 "com/example/profitmine/profitmine/io/Fields" := (H1.wr W1)
  obtain ⟨T4, h4, X4, e4, W4, st4⟩ := putF X1 hx hZ hown (host := "") (Or.inl (hw _ (List.mem_of_getElem? (i := 51) rfl))) Via.refl e1 F2 F3 (Or.inl (hw _ (List.mem_of_getElem? (i := 52) rfl))) (hw _ (List.mem_of_getElem? (i := 35) rfl)) (ty := .int) (by decide) rfl rfl (g := (mkF m 7 #[.val (.ref a1), .val (.ref a2)] [(.int (0 : Int32)), (.ref a1)])) rfl rfl (hb hby d9_7)
  refine own_go st4 ?_
  have G4 : Fld Z h4 a1 "com/example/profitmine/profitmine/io/Fields" "count" "I" (.int (0 : Int32)) := F2.same W4
  have N4 := Fr.snoc X4 N1 H6
  refine own_go (fun t k => XS.aloadN X4.here hx rfl (hb hby d9_10) rfl rfl  k) ?_
  refine own_go (fun t k => XS.iconst X4.here hx rfl (hb hby d9_11) k) ?_
  have F5 : Fld Z h4 a1 "com/example/profitmine/profitmine/io/Fields" "start" "I" (.int n2) := ((H4.other W1 (Or.inr (slot_ne (Or.inl (hw _ (List.mem_of_getElem? (i := 54) rfl))) (Or.inl (hw _ (List.mem_of_getElem? (i := 45) rfl))) (by decide) (t := .int) (t' := (.object "java/lang/String")) (by decide) (by decide)))).other W4 (Or.inr (slot_ne (Or.inl (hw _ (List.mem_of_getElem? (i := 54) rfl))) (Or.inl (hw _ (List.mem_of_getElem? (i := 52) rfl))) (by decide) (t := .int) (t' := .int) (by decide) (by decide))))
  have F6 : Exa Z h4 a1 "com/example/profitmine/profitmine/io/Fields" := (F3.wr W4)
  obtain ⟨T7, h7, X7, e7, W7, st7⟩ := putF X4 hx hZ hown (host := "") (Or.inl (hw _ (List.mem_of_getElem? (i := 53) rfl))) Via.refl e4 F5 F6 (Or.inl (hw _ (List.mem_of_getElem? (i := 54) rfl))) (hw _ (List.mem_of_getElem? (i := 35) rfl)) (ty := .int) (by decide) rfl rfl (g := (mkF m 12 #[.val (.ref a1), .val (.ref a2)] [(.int (0 : Int32)), (.ref a1)])) rfl rfl (hb hby d9_12)
  refine own_go st7 ?_
  have G7 : Fld Z h7 a1 "com/example/profitmine/profitmine/io/Fields" "start" "I" (.int (0 : Int32)) := F5.same W7
  have N7 := Fr.snoc X7 N4 H6
  show own_Run p e below Φ (T7.setTop (mkF m 15 #[.val (.ref a1), .val (.ref a2)] []))
  refine own_go (fun t k => XS.aloadN X7.here hx rfl (hb hby d9_15) rfl rfl  k) ?_
  refine own_go (fun t k => XS.iconst X7.here hx rfl (hb hby d9_16) k) ?_
  have F8 : Fld Z h7 a1 "com/example/profitmine/profitmine/io/Fields" "end" "I" (.int n3) := (((H5.other W1 (Or.inr (slot_ne (Or.inl (hw _ (List.mem_of_getElem? (i := 56) rfl))) (Or.inl (hw _ (List.mem_of_getElem? (i := 45) rfl))) (by decide) (t := .int) (t' := (.object "java/lang/String")) (by decide) (by decide)))).other W4 (Or.inr (slot_ne (Or.inl (hw _ (List.mem_of_getElem? (i := 56) rfl))) (Or.inl (hw _ (List.mem_of_getElem? (i := 52) rfl))) (by decide) (t := .int) (t' := .int) (by decide) (by decide)))).other W7 (Or.inr (slot_ne (Or.inl (hw _ (List.mem_of_getElem? (i := 56) rfl))) (Or.inl (hw _ (List.mem_of_getElem? (i := 54) rfl))) (by decide) (t := .int) (t' := .int) (by decide) (by decide))))
  have F9 : Exa Z h7 a1 "com/example/profitmine/profitmine/io/Fields" := (F6.wr W7)
  obtain ⟨T10, h10, X10, e10, W10, st10⟩ := putF X7 hx hZ hown (host := "") (Or.inl (hw _ (List.mem_of_getElem? (i := 55) rfl))) Via.refl e7 F8 F9 (Or.inl (hw _ (List.mem_of_getElem? (i := 56) rfl))) (hw _ (List.mem_of_getElem? (i := 35) rfl)) (ty := .int) (by decide) rfl rfl (g := (mkF m 17 #[.val (.ref a1), .val (.ref a2)] [(.int (0 : Int32)), (.ref a1)])) rfl rfl (hb hby d9_17)
  refine own_go st10 ?_
  have G10 : Fld Z h10 a1 "com/example/profitmine/profitmine/io/Fields" "end" "I" (.int (0 : Int32)) := F8.same W10
  have N10 := Fr.snoc X10 N7 H6
  have F11 : Keep h0 h10 [a1] := ((((K0.wr W1 (Or.inl (List.mem_of_getElem? (i := 0) rfl))).wr W4 (Or.inl (List.mem_of_getElem? (i := 0) rfl))).wr W7 (Or.inl (List.mem_of_getElem? (i := 0) rfl))).wr W10 (Or.inl (List.mem_of_getElem? (i := 0) rfl)))
  have F12 : Fld Z h10 a1 "com/example/profitmine/profitmine/io/Fields" "line" "Ljava/lang/String;" (.ref a2) := (((G1.other W4 (Or.inr (slot_ne (Or.inl (hw _ (List.mem_of_getElem? (i := 45) rfl))) (Or.inl (hw _ (List.mem_of_getElem? (i := 52) rfl))) (by decide) (t := (.object "java/lang/String")) (t' := .int) (by decide) (by decide)))).other W7 (Or.inr (slot_ne (Or.inl (hw _ (List.mem_of_getElem? (i := 45) rfl))) (Or.inl (hw _ (List.mem_of_getElem? (i := 54) rfl))) (by decide) (t := (.object "java/lang/String")) (t' := .int) (by decide) (by decide)))).other W10 (Or.inr (slot_ne (Or.inl (hw _ (List.mem_of_getElem? (i := 45) rfl))) (Or.inl (hw _ (List.mem_of_getElem? (i := 56) rfl))) (by decide) (t := (.object "java/lang/String")) (t' := .int) (by decide) (by decide))))
  have F13 : Fld Z h10 a1 "com/example/profitmine/profitmine/io/Fields" "count" "I" (.int (0 : Int32)) := ((G4.other W7 (Or.inr (slot_ne (Or.inl (hw _ (List.mem_of_getElem? (i := 52) rfl))) (Or.inl (hw _ (List.mem_of_getElem? (i := 54) rfl))) (by decide) (t := .int) (t' := .int) (by decide) (by decide)))).other W10 (Or.inr (slot_ne (Or.inl (hw _ (List.mem_of_getElem? (i := 52) rfl))) (Or.inl (hw _ (List.mem_of_getElem? (i := 56) rfl))) (by decide) (t := .int) (t' := .int) (by decide) (by decide))))
  have F14 : Fld Z h10 a1 "com/example/profitmine/profitmine/io/Fields" "start" "I" (.int (0 : Int32)) := (G7.other W10 (Or.inr (slot_ne (Or.inl (hw _ (List.mem_of_getElem? (i := 54) rfl))) (Or.inl (hw _ (List.mem_of_getElem? (i := 56) rfl))) (by decide) (t := .int) (t' := .int) (by decide) (by decide))))
  subst hΦ
  exact own_retV X10 hx Bd.returns hlk (hb hby d9_20) e10 ⟨rfl, N10, F11, F12, F13, F14, G10⟩ (by decide) (by decide)
theorem d10_0 : decode prog_26_method_3_code 0 = .ok (.aload_n 0, 1) := by decide +kernel
theorem d10_1 : decode prog_26_method_3_code 1 = .ok (.getfield 24, 3) := by decide +kernel
theorem d10_4 : decode prog_26_method_3_code 4 = .ok (.istore_n 1, 1) := by decide +kernel
theorem d10_5 : decode prog_26_method_3_code 5 = .ok (.iload_n 1, 1) := by decide +kernel
theorem d10_6 : decode prog_26_method_3_code 6 = .ok (.aload_n 0, 1) := by decide +kernel
theorem d10_7 : decode prog_26_method_3_code 7 = .ok (.getfield 11, 3) := by decide +kernel
theorem d10_10 : decode prog_26_method_3_code 10 = .ok (.invokevirtual 27, 3) := by decide +kernel
theorem d10_13 : decode prog_26_method_3_code 13 = .ok (.if_icmp .ge 23, 3) := by decide +kernel
theorem d10_16 : decode prog_26_method_3_code 16 = .ok (.aload_n 0, 1) := by decide +kernel
theorem d10_17 : decode prog_26_method_3_code 17 = .ok (.getfield 11, 3) := by decide +kernel
theorem d10_20 : decode prog_26_method_3_code 20 = .ok (.iload_n 1, 1) := by decide +kernel
theorem d10_21 : decode prog_26_method_3_code 21 = .ok (.invokevirtual 33, 3) := by decide +kernel
theorem d10_24 : decode prog_26_method_3_code 24 = .ok (.invokestatic 37, 3) := by decide +kernel
theorem d10_27 : decode prog_26_method_3_code 27 = .ok (.ifCond .eq 9, 3) := by decide +kernel
theorem d10_30 : decode prog_26_method_3_code 30 = .ok (.iinc 1 1, 3) := by decide +kernel
theorem d10_33 : decode prog_26_method_3_code 33 = .ok (.goto (-28), 3) := by decide +kernel
theorem d10_36 : decode prog_26_method_3_code 36 = .ok (.iload_n 1, 1) := by decide +kernel
theorem d10_37 : decode prog_26_method_3_code 37 = .ok (.aload_n 0, 1) := by decide +kernel
theorem d10_38 : decode prog_26_method_3_code 38 = .ok (.getfield 11, 3) := by decide +kernel
theorem d10_41 : decode prog_26_method_3_code 41 = .ok (.invokevirtual 27, 3) := by decide +kernel
theorem d10_44 : decode prog_26_method_3_code 44 = .ok (.if_icmp .ge 27, 3) := by decide +kernel
theorem d10_47 : decode prog_26_method_3_code 47 = .ok (.aload_n 0, 1) := by decide +kernel
theorem d10_48 : decode prog_26_method_3_code 48 = .ok (.getfield 17, 3) := by decide +kernel
theorem d10_51 : decode prog_26_method_3_code 51 = .ok (.ifCond .gt 16, 3) := by decide +kernel
theorem d10_54 : decode prog_26_method_3_code 54 = .ok (.aload_n 0, 1) := by decide +kernel
theorem d10_55 : decode prog_26_method_3_code 55 = .ok (.getfield 11, 3) := by decide +kernel
theorem d10_58 : decode prog_26_method_3_code 58 = .ok (.iload_n 1, 1) := by decide +kernel
theorem d10_59 : decode prog_26_method_3_code 59 = .ok (.invokevirtual 33, 3) := by decide +kernel
theorem d10_62 : decode prog_26_method_3_code 62 = .ok (.bipush 35, 2) := by decide +kernel
theorem d10_64 : decode prog_26_method_3_code 64 = .ok (.if_icmp .eq 7, 3) := by decide +kernel
theorem d10_67 : decode prog_26_method_3_code 67 = .ok (.iconst 1, 1) := by decide +kernel
theorem d10_68 : decode prog_26_method_3_code 68 = .ok (.goto 4, 3) := by decide +kernel
theorem d10_71 : decode prog_26_method_3_code 71 = .ok (.iconst 0, 1) := by decide +kernel
theorem d10_72 : decode prog_26_method_3_code 72 = .ok (.istore_n 2, 1) := by decide +kernel
theorem d10_73 : decode prog_26_method_3_code 73 = .ok (.iload_n 2, 1) := by decide +kernel
theorem d10_74 : decode prog_26_method_3_code 74 = .ok (.ifCond .eq 70, 3) := by decide +kernel
theorem d10_77 : decode prog_26_method_3_code 77 = .ok (.aload_n 0, 1) := by decide +kernel
theorem d10_78 : decode prog_26_method_3_code 78 = .ok (.iload_n 1, 1) := by decide +kernel
theorem d10_79 : decode prog_26_method_3_code 79 = .ok (.putfield 21, 3) := by decide +kernel
theorem d10_82 : decode prog_26_method_3_code 82 = .ok (.aload_n 0, 1) := by decide +kernel
theorem d10_83 : decode prog_26_method_3_code 83 = .ok (.iload_n 1, 1) := by decide +kernel
theorem d10_84 : decode prog_26_method_3_code 84 = .ok (.putfield 24, 3) := by decide +kernel
theorem d10_87 : decode prog_26_method_3_code 87 = .ok (.aload_n 0, 1) := by decide +kernel
theorem d10_88 : decode prog_26_method_3_code 88 = .ok (.getfield 24, 3) := by decide +kernel
theorem d10_91 : decode prog_26_method_3_code 91 = .ok (.aload_n 0, 1) := by decide +kernel
theorem d10_92 : decode prog_26_method_3_code 92 = .ok (.getfield 11, 3) := by decide +kernel
theorem d10_95 : decode prog_26_method_3_code 95 = .ok (.invokevirtual 27, 3) := by decide +kernel
theorem d10_98 : decode prog_26_method_3_code 98 = .ok (.if_icmp .ge 33, 3) := by decide +kernel
theorem d10_101 : decode prog_26_method_3_code 101 = .ok (.aload_n 0, 1) := by decide +kernel
theorem d10_102 : decode prog_26_method_3_code 102 = .ok (.getfield 11, 3) := by decide +kernel
theorem d10_105 : decode prog_26_method_3_code 105 = .ok (.aload_n 0, 1) := by decide +kernel
theorem d10_106 : decode prog_26_method_3_code 106 = .ok (.getfield 24, 3) := by decide +kernel
theorem d10_109 : decode prog_26_method_3_code 109 = .ok (.invokevirtual 33, 3) := by decide +kernel
theorem d10_112 : decode prog_26_method_3_code 112 = .ok (.invokestatic 37, 3) := by decide +kernel
theorem d10_115 : decode prog_26_method_3_code 115 = .ok (.ifCond .ne 16, 3) := by decide +kernel
theorem d10_118 : decode prog_26_method_3_code 118 = .ok (.aload_n 0, 1) := by decide +kernel
theorem d10_119 : decode prog_26_method_3_code 119 = .ok (.dup, 1) := by decide +kernel
theorem d10_120 : decode prog_26_method_3_code 120 = .ok (.getfield 24, 3) := by decide +kernel
theorem d10_123 : decode prog_26_method_3_code 123 = .ok (.iconst 1, 1) := by decide +kernel
theorem d10_124 : decode prog_26_method_3_code 124 = .ok (.iadd, 1) := by decide +kernel
theorem d10_125 : decode prog_26_method_3_code 125 = .ok (.putfield 24, 3) := by decide +kernel
theorem d10_128 : decode prog_26_method_3_code 128 = .ok (.goto (-41), 3) := by decide +kernel
theorem d10_131 : decode prog_26_method_3_code 131 = .ok (.aload_n 0, 1) := by decide +kernel
theorem d10_132 : decode prog_26_method_3_code 132 = .ok (.dup, 1) := by decide +kernel
theorem d10_133 : decode prog_26_method_3_code 133 = .ok (.getfield 17, 3) := by decide +kernel
theorem d10_136 : decode prog_26_method_3_code 136 = .ok (.iconst 1, 1) := by decide +kernel
theorem d10_137 : decode prog_26_method_3_code 137 = .ok (.iadd, 1) := by decide +kernel
theorem d10_138 : decode prog_26_method_3_code 138 = .ok (.putfield 17, 3) := by decide +kernel
theorem d10_141 : decode prog_26_method_3_code 141 = .ok (.goto 25, 3) := by decide +kernel
theorem d10_144 : decode prog_26_method_3_code 144 = .ok (.aload_n 0, 1) := by decide +kernel
theorem d10_145 : decode prog_26_method_3_code 145 = .ok (.aload_n 0, 1) := by decide +kernel
theorem d10_146 : decode prog_26_method_3_code 146 = .ok (.getfield 11, 3) := by decide +kernel
theorem d10_149 : decode prog_26_method_3_code 149 = .ok (.invokevirtual 27, 3) := by decide +kernel
theorem d10_152 : decode prog_26_method_3_code 152 = .ok (.putfield 21, 3) := by decide +kernel
theorem d10_155 : decode prog_26_method_3_code 155 = .ok (.aload_n 0, 1) := by decide +kernel
theorem d10_156 : decode prog_26_method_3_code 156 = .ok (.aload_n 0, 1) := by decide +kernel
theorem d10_157 : decode prog_26_method_3_code 157 = .ok (.getfield 11, 3) := by decide +kernel
theorem d10_160 : decode prog_26_method_3_code 160 = .ok (.invokevirtual 27, 3) := by decide +kernel
theorem d10_163 : decode prog_26_method_3_code 163 = .ok (.putfield 24, 3) := by decide +kernel
theorem d10_166 : decode prog_26_method_3_code 166 = .ok (.iload_n 2, 1) := by decide +kernel
theorem d10_167 : decode prog_26_method_3_code 167 = .ok (.ireturn, 1) := by decide +kernel
theorem pd_9 : parseMethodDescriptor "()I" = some ⟨[], some .int⟩ := by decide +kernel
theorem pd_0 : parseMethodDescriptor "(I)C" = some ⟨[.int], some .char⟩ := by decide +kernel
theorem pd_14 : parseMethodDescriptor "(C)Z" = some ⟨[.char], some .boolean⟩ := by decide +kernel
theorem ef_10_R (m : MethodId) (x0 : Addr) : entryFrame m #[(.ref x0)] 3 = mkF m 0 #[.val (.ref x0), .unset, .unset] [] := by first | (simp [entryFrame, mkF, argsToLocals, Value.category]; done) | rfl
set_option maxRecDepth 65536 in
set_option maxHeartbeats 40000000 in
theorem rm_na (l : Launch) (Z : State) (a0 : Array Value) (hw : ∀ d ∈ tables_1, d.before a0 Z = true) (a1 : Addr) (sx : Addr) (tx : Addr) (kx : ClassId) (y0 : Int32) (y1 : Int32) (y2 : Int32) (g1 : Int32) (g3 : Value) (sn : Int32) (en : Int32) (cn : Int32) (h0 : Heap) (n0 : Nat) (H1 : Exa Z h0 a1 "com/example/profitmine/profitmine/io/Fields") (H2 : Fld Z h0 a1 "com/example/profitmine/profitmine/io/Fields" "line" "Ljava/lang/String;" (.ref sx)) (H3 : Fld Z h0 a1 "com/example/profitmine/profitmine/io/Fields" "start" "I" (.int sn)) (H4 : Fld Z h0 a1 "com/example/profitmine/profitmine/io/Fields" "end" "I" (.int en)) (H5 : Fld Z h0 a1 "com/example/profitmine/profitmine/io/Fields" "count" "I" (.int cn)) (H6 : Old Z n0 h0) (H7 : Sta Z Z.heap "java/lang/String" "COMPACT_STRINGS" "Z" (.int g1)) (hg5 : ¬ (g1 = (0 : Int32))) (H9 : Sta Z Z.heap "jdk/internal/util/Preconditions" "SIOOBE_FORMATTER" "Ljava/util/function/BiFunction;" g3) (hr : g3.isRef = true) (H11 : Exa Z h0 sx "java/lang/String") (H12 : Fld Z h0 sx "java/lang/String" "value" "[B" (.ref tx)) (H13 : Fld Z h0 sx "java/lang/String" "coder" "B" (.int (0 : Int32))) (H14 : Arv Z h0 tx kx .byte (3 : Int32) [(.int (y0.toInt8.toInt32)), (.int (y1.toInt8.toInt32)), (.int (y2.toInt8.toInt32))] (.int 0)) (H15 : n0 ≤ a1) (H16 : sx ≠ a1) (H17 : tx ≠ a1) (hy : (0 ≤ y0.toInt ∧ y0.toInt ≤ 255) ∧ (0 ≤ y1.toInt ∧ y1.toInt ≤ 255) ∧ (0 ≤ y2.toInt ∧ y2.toInt ≤ 255)) (he : en = (0 : Int32) ∨ en = (1 : Int32) ∨ en = (2 : Int32) ∨ en = (3 : Int32)) :
    own_Met l Z (⟨"com/example/profitmine/profitmine/io/Fields", "next", "()Z"⟩ : MethodName) prog_26_method_3_code 3 (some .boolean) ({ frames := 4, cells := 0, slots := 0, locals := 53 } : Room) #[(.ref a1)] h0 (fun v h L => (∃ rz : Int32, v = some (.int rz)) ∧ Fr n0 L ∧ Keep h0 h [a1] ∧ Fld Z h a1 "com/example/profitmine/profitmine/io/Fields" "line" "Ljava/lang/String;" (.ref sx) ∧ ∃ (u1 u2 u3 : Int32), Fld Z h a1 "com/example/profitmine/profitmine/io/Fields" "start" "I" (.int u1) ∧ Fld Z h a1 "com/example/profitmine/profitmine/io/Fields" "end" "I" (.int u2) ∧ Fld Z h a1 "com/example/profitmine/profitmine/io/Fields" "count" "I" (.int u3) ∧ (u2 = (0 : Int32) ∨ u2 = (1 : Int32) ∨ u2 = (2 : Int32) ∨ u2 = (3 : Int32))) := by
  intro ws
  refine MetFree.of_bodySF (plainFor_of_name pn_c4) hisR ?_
  intro p e s m args below meth c s₁ Bd hml0 hP hK
  obtain ⟨rfl, hZ, hh⟩ := hP
  have hx := Bd.exec
  have hby := Bd.bytes
  have hml : c.maxLocals = 3 := hml0
  have hown : s.vm.findClass "com/example/profitmine/profitmine/io/Fields" = some m.cls := findClass_of_methodNamed Bd.named
  have hnm := (name_of_methodNamed Bd.named Bd.method).1
  have hlk : meth.locks = false := Bd.notSynchronized
  have X0 : Stand p l e ({ frames := 4, cells := 0, slots := 0, locals := 53 } : Room) s m #[(.ref a1)] below meth c s₁ [] 0 0 := Stand.of_body Bd
  have e0 : s₁.heap = h0 := by rw [← hh, Bd.state]; rfl
  have N0 := Fr.nil n0
  refine own_body (Q := fun v h L => (∃ rz : Int32, v = some (.int rz)) ∧ Fr n0 L ∧ Keep h0 h [a1] ∧ Fld Z h a1 "com/example/profitmine/profitmine/io/Fields" "line" "Ljava/lang/String;" (.ref sx) ∧ ∃ (u1 u2 u3 : Int32), Fld Z h a1 "com/example/profitmine/profitmine/io/Fields" "start" "I" (.int u1) ∧ Fld Z h a1 "com/example/profitmine/profitmine/io/Fields" "end" "I" (.int u2) ∧ Fld Z h a1 "com/example/profitmine/profitmine/io/Fields" "count" "I" (.int u3) ∧ (u2 = (0 : Int32) ∨ u2 = (1 : Int32) ∨ u2 = (2 : Int32) ∨ u2 = (3 : Int32))) ?_
  generalize hΦ : own_Fin s below _ _ _ = Φ
  refine own_cast (ef_10_R m a1) ?_
  have K0 := Keep.refl h0 [a1]
  show own_Run p e below Φ (s₁.setTop (mkF m 0 #[.val (.ref a1), .unset, .unset] []))
  have J36_1 : ∀ (ii : Int32) (T2 : State) (h2 : Heap) (l2 : List Loc) (c2 z2 : Nat), (Stand p l e ({ frames := 4, cells := 0, slots := 0, locals := 53 } : Room) s m #[(.ref a1)] below meth c T2 l2 c2 z2) → (T2.heap = h2) → (Fr n0 l2) → (c2 ≤ 0) → (z2 ≤ 0) → (Keep h0 h2 [a1]) → (Exa Z h2 a1 "com/example/profitmine/profitmine/io/Fields") → (Fld Z h2 a1 "com/example/profitmine/profitmine/io/Fields" "line" "Ljava/lang/String;" (.ref sx)) → (Fld Z h2 a1 "com/example/profitmine/profitmine/io/Fields" "start" "I" (.int sn)) → (Fld Z h2 a1 "com/example/profitmine/profitmine/io/Fields" "end" "I" (.int en)) → (Fld Z h2 a1 "com/example/profitmine/profitmine/io/Fields" "count" "I" (.int cn)) → (Old Z n0 h2) → (Exa Z h2 sx "java/lang/String") → (Fld Z h2 sx "java/lang/String" "value" "[B" (.ref tx)) → (Fld Z h2 sx "java/lang/String" "coder" "B" (.int (0 : Int32))) → (Arv Z h2 tx kx .byte (3 : Int32) [(.int (y0.toInt8.toInt32)), (.int (y1.toInt8.toInt32)), (.int (y2.toInt8.toInt32))] (.int 0)) → (ii = (0 : Int32) ∨ ii = (1 : Int32) ∨ ii = (2 : Int32) ∨ ii = (3 : Int32)) → own_Run p e below Φ (T2.setTop (mkF m 36 #[.val (.ref a1), .val (.int ii), .unset] [])) := by
    intro ii T2 h2 l2 c2 z2 X2 e2 N2 hc2 hs2 F3 F4 F5 F6 F7 F8 F9 F10 F11 F12 F13 hii
    show own_Run p e below Φ (T2.setTop (mkF m 36 #[.val (.ref a1), .val (.int ii), .unset] []))
    rcases hii with rfl | rfl | rfl | rfl
    · skip
      have J72_14 : ∀ (fd : Int32) (T15 : State) (h15 : Heap) (l15 : List Loc) (c15 z15 : Nat), (Stand p l e ({ frames := 4, cells := 0, slots := 0, locals := 53 } : Room) s m #[(.ref a1)] below meth c T15 l15 c15 z15) → (T15.heap = h15) → (Fr n0 l15) → (c15 ≤ 0) → (z15 ≤ 0) → (Keep h0 h15 [a1]) → (Exa Z h15 a1 "com/example/profitmine/profitmine/io/Fields") → (Fld Z h15 a1 "com/example/profitmine/profitmine/io/Fields" "line" "Ljava/lang/String;" (.ref sx)) → (Fld Z h15 a1 "com/example/profitmine/profitmine/io/Fields" "start" "I" (.int sn)) → (Fld Z h15 a1 "com/example/profitmine/profitmine/io/Fields" "end" "I" (.int en)) → (Fld Z h15 a1 "com/example/profitmine/profitmine/io/Fields" "count" "I" (.int cn)) → (Old Z n0 h15) → (Exa Z h15 sx "java/lang/String") → (Fld Z h15 sx "java/lang/String" "value" "[B" (.ref tx)) → (Fld Z h15 sx "java/lang/String" "coder" "B" (.int (0 : Int32))) → (Arv Z h15 tx kx .byte (3 : Int32) [(.int (y0.toInt8.toInt32)), (.int (y1.toInt8.toInt32)), (.int (y2.toInt8.toInt32))] (.int 0)) → own_Run p e below Φ (T15.setTop (mkF m 72 #[.val (.ref a1), .val (.int (0 : Int32)), .unset] [(.int fd)])) := by
        intro fd T15 h15 l15 c15 z15 X15 e15 N15 hc15 hs15 F16 F17 F18 F19 F20 F21 F22 F23 F24 F25 F26
        show own_Run p e below Φ (T15.setTop (mkF m 72 #[.val (.ref a1), .val (.int (0 : Int32)), .unset] [(.int fd)]))
        refine own_go (fun t k => XS.istoreN X15.here hx rfl (hb hby d10_72) rfl (l' := #[.val (.ref a1), .val (.int (0 : Int32)), .val (.int fd)]) rfl k) ?_
        refine own_go (fun t k => XS.iloadN X15.here hx rfl (hb hby d10_73) rfl  k) ?_
        by_cases hc74 : fd = (0 : Int32)
        · refine own_go (fun t k => XS.ifYes X15.here hx rfl (pc0 := 74) (pc' := 144) rfl (hb hby d10_74) rfl ((if0 _ _).trans (teq hc74).1) (by decide) (by decide) k) ?_
          refine own_go (fun t k => XS.aloadN X15.here hx rfl (hb hby d10_144) rfl rfl  k) ?_
          refine own_go (fun t k => XS.aloadN X15.here hx rfl (hb hby d10_145) rfl rfl  k) ?_
          obtain ⟨T27, X27, e27, st27⟩ := getF X15 hx hZ hown (host := "") (Or.inl (hw _ (List.mem_of_getElem? (i := 44) rfl))) Via.refl e15 F18 (g := (mkF m 146 #[.val (.ref a1), .val (.int (0 : Int32)), .val (.int fd)] [(.ref a1), (.ref a1)])) rfl rfl (hb hby d10_146)
          refine own_go st27 ?_
          refine own_callV X27 hx hZ (y := (⟨"java/lang/String", "length", "()I"⟩ : MethodName)) (z := (⟨"java/lang/String", "length", "()I"⟩ : MethodName)) (W := 1) (a := sx) (argsL := []) (rest := [(.ref a1)]) hown (hw _ (List.mem_of_getElem? (i := 62) rfl)) (hw _ (List.mem_of_getElem? (i := 63) rfl)) (notFace_of_selects (args := #[]) (mvT hZ (hw _ (List.mem_of_getElem? (i := 65) rfl)))) (hw _ (List.mem_of_getElem? (i := 65) rfl)) (hw _ (List.mem_of_getElem? (i := 64) rfl)) (by decide) (own_bk (rm_le l Z a0 hw sx g1 tx kx _ _ _ h15 n0 F22 H7 hg5 F23 F24 F25 F26) hZ (hw _ (List.mem_of_getElem? (i := 66) rfl)) (hw _ (List.mem_of_getElem? (i := 7) rfl)) (by decide) (by decide)) e27 F23 (g := (mkF m 149 #[.val (.ref a1), .val (.int (0 : Int32)), .val (.int fd)] [(.ref sx), (.ref a1)])) rfl (by rw [hml]; rfl) (lenOf pd_9 rfl) rfl (by show 2 * 0 + _ ≤ _; exact Nat.le_of_eq rfl) (hb hby d10_149) (own_le hc15 (by decide)) (own_le hs15 (by decide)) (fun v28 T28 h28 L28 X28 e28 q28 => ?_)
          obtain ⟨rfl, M28, s28⟩ := q28
          replace e28 : T28.heap = h15 := e28.trans s28
          have N28 := Fr.app N15 M28
          obtain ⟨T29, h29, X29, e29, W29, st29⟩ := putF X28 hx hZ hown (host := "") (Or.inl (hw _ (List.mem_of_getElem? (i := 53) rfl))) Via.refl e28 F19 F17 (Or.inl (hw _ (List.mem_of_getElem? (i := 54) rfl))) (hw _ (List.mem_of_getElem? (i := 35) rfl)) (ty := .int) (by decide) rfl rfl (g := (mkF m 152 #[.val (.ref a1), .val (.int (0 : Int32)), .val (.int fd)] [(.int (3 : Int32)), (.ref a1)])) rfl rfl (hb hby d10_152)
          refine own_go st29 ?_
          have G29 : Fld Z h29 a1 "com/example/profitmine/profitmine/io/Fields" "start" "I" (.int (3 : Int32)) := F19.same W29
          have N29 := Fr.snoc X29 N28 H15
          refine own_go (fun t k => XS.aloadN X29.here hx rfl (hb hby d10_155) rfl rfl  k) ?_
          show own_Run p e below Φ (T29.setTop (mkF m 156 #[.val (.ref a1), .val (.int (0 : Int32)), .val (.int fd)] [(.ref a1)]))
          refine own_go (fun t k => XS.aloadN X29.here hx rfl (hb hby d10_156) rfl rfl  k) ?_
          have F30 : Fld Z h29 a1 "com/example/profitmine/profitmine/io/Fields" "line" "Ljava/lang/String;" (.ref sx) := (F18.other W29 (Or.inr (slot_ne (Or.inl (hw _ (List.mem_of_getElem? (i := 45) rfl))) (Or.inl (hw _ (List.mem_of_getElem? (i := 54) rfl))) (by decide) (t := (.object "java/lang/String")) (t' := .int) (by decide) (by decide))))
          obtain ⟨T31, X31, e31, st31⟩ := getF X29 hx hZ hown (host := "") (Or.inl (hw _ (List.mem_of_getElem? (i := 44) rfl))) Via.refl e29 F30 (g := (mkF m 157 #[.val (.ref a1), .val (.int (0 : Int32)), .val (.int fd)] [(.ref a1), (.ref a1)])) rfl rfl (hb hby d10_157)
          refine own_go st31 ?_
          have F32 : Old Z n0 h29 := (F22.wr W29 H15)
          have F33 : Exa Z h29 sx "java/lang/String" := (F23.wr W29)
          have F34 : Fld Z h29 sx "java/lang/String" "value" "[B" (.ref tx) := (F24.other W29 (Or.inl H16))
          have F35 : Fld Z h29 sx "java/lang/String" "coder" "B" (.int (0 : Int32)) := (F25.other W29 (Or.inl H16))
          have F36 : Arv Z h29 tx kx .byte (3 : Int32) [(.int (y0.toInt8.toInt32)), (.int (y1.toInt8.toInt32)), (.int (y2.toInt8.toInt32))] (.int 0) := (F26.other W29 H17)
          refine own_callV X31 hx hZ (y := (⟨"java/lang/String", "length", "()I"⟩ : MethodName)) (z := (⟨"java/lang/String", "length", "()I"⟩ : MethodName)) (W := 1) (a := sx) (argsL := []) (rest := [(.ref a1)]) hown (hw _ (List.mem_of_getElem? (i := 62) rfl)) (hw _ (List.mem_of_getElem? (i := 63) rfl)) (notFace_of_selects (args := #[]) (mvT hZ (hw _ (List.mem_of_getElem? (i := 65) rfl)))) (hw _ (List.mem_of_getElem? (i := 65) rfl)) (hw _ (List.mem_of_getElem? (i := 64) rfl)) (by decide) (own_bk (rm_le l Z a0 hw sx g1 tx kx _ _ _ h29 n0 F32 H7 hg5 F33 F34 F35 F36) hZ (hw _ (List.mem_of_getElem? (i := 66) rfl)) (hw _ (List.mem_of_getElem? (i := 7) rfl)) (by decide) (by decide)) e31 F33 (g := (mkF m 160 #[.val (.ref a1), .val (.int (0 : Int32)), .val (.int fd)] [(.ref sx), (.ref a1)])) rfl (by rw [hml]; rfl) (lenOf pd_9 rfl) rfl (by show 2 * 0 + _ ≤ _; exact Nat.le_of_eq rfl) (hb hby d10_160) (own_le (Nat.add_le_add_right hc15 0) (by decide)) (own_le (Nat.add_le_add_right hs15 0) (by decide)) (fun v37 T37 h37 L37 X37 e37 q37 => ?_)
          obtain ⟨rfl, M37, s37⟩ := q37
          replace e37 : T37.heap = h29 := e37.trans s37
          have N37 := Fr.app N29 M37
          have F38 : Fld Z h29 a1 "com/example/profitmine/profitmine/io/Fields" "end" "I" (.int en) := (F20.other W29 (Or.inr (slot_ne (Or.inl (hw _ (List.mem_of_getElem? (i := 56) rfl))) (Or.inl (hw _ (List.mem_of_getElem? (i := 54) rfl))) (by decide) (t := .int) (t' := .int) (by decide) (by decide))))
          have F39 : Exa Z h29 a1 "com/example/profitmine/profitmine/io/Fields" := (F17.wr W29)
          obtain ⟨T40, h40, X40, e40, W40, st40⟩ := putF X37 hx hZ hown (host := "") (Or.inl (hw _ (List.mem_of_getElem? (i := 55) rfl))) Via.refl e37 F38 F39 (Or.inl (hw _ (List.mem_of_getElem? (i := 56) rfl))) (hw _ (List.mem_of_getElem? (i := 35) rfl)) (ty := .int) (by decide) rfl rfl (g := (mkF m 163 #[.val (.ref a1), .val (.int (0 : Int32)), .val (.int fd)] [(.int (3 : Int32)), (.ref a1)])) rfl rfl (hb hby d10_163)
          refine own_go st40 ?_
          have G40 : Fld Z h40 a1 "com/example/profitmine/profitmine/io/Fields" "end" "I" (.int (3 : Int32)) := F38.same W40
          have N40 := Fr.snoc X40 N37 H15
          refine own_go (fun t k => XS.iloadN X40.here hx rfl (hb hby d10_166) rfl  k) ?_
          have F41 : Keep h0 h40 [a1] := ((F16.wr W29 (Or.inl (List.mem_of_getElem? (i := 0) rfl))).wr W40 (Or.inl (List.mem_of_getElem? (i := 0) rfl)))
          have F42 : Fld Z h40 a1 "com/example/profitmine/profitmine/io/Fields" "line" "Ljava/lang/String;" (.ref sx) := (F30.other W40 (Or.inr (slot_ne (Or.inl (hw _ (List.mem_of_getElem? (i := 45) rfl))) (Or.inl (hw _ (List.mem_of_getElem? (i := 56) rfl))) (by decide) (t := (.object "java/lang/String")) (t' := .int) (by decide) (by decide))))
          have F43 : Fld Z h40 a1 "com/example/profitmine/profitmine/io/Fields" "start" "I" (.int (3 : Int32)) := (G29.other W40 (Or.inr (slot_ne (Or.inl (hw _ (List.mem_of_getElem? (i := 54) rfl))) (Or.inl (hw _ (List.mem_of_getElem? (i := 56) rfl))) (by decide) (t := .int) (t' := .int) (by decide) (by decide))))
          have F44 : Fld Z h40 a1 "com/example/profitmine/profitmine/io/Fields" "count" "I" (.int cn) := ((F21.other W29 (Or.inr (slot_ne (Or.inl (hw _ (List.mem_of_getElem? (i := 52) rfl))) (Or.inl (hw _ (List.mem_of_getElem? (i := 54) rfl))) (by decide) (t := .int) (t' := .int) (by decide) (by decide)))).other W40 (Or.inr (slot_ne (Or.inl (hw _ (List.mem_of_getElem? (i := 52) rfl))) (Or.inl (hw _ (List.mem_of_getElem? (i := 56) rfl))) (by decide) (t := .int) (t' := .int) (by decide) (by decide))))
          subst hΦ
          exact own_retN X40 hx (t := .boolean) Bd.returns (by simp) hlk (hb hby d10_167) e40 ⟨⟨_, rfl⟩, N40, F41, F42, ⟨_, _, _, F43, G40, F44, (by decide)⟩⟩ (Nat.le_trans (Nat.add_le_add_right (Nat.add_le_add_right hc15 0) 0) (by decide)) (Nat.le_trans (Nat.add_le_add_right (Nat.add_le_add_right hs15 0) 0) (by decide))
        · refine own_go (fun t k => XS.ifNo X15.here hx rfl (hb hby d10_74) rfl ((if0 _ _).trans (feq hc74).1) k) ?_
          refine own_go (fun t k => XS.aloadN X15.here hx rfl (hb hby d10_77) rfl rfl  k) ?_
          refine own_go (fun t k => XS.iloadN X15.here hx rfl (hb hby d10_78) rfl  k) ?_
          obtain ⟨T45, h45, X45, e45, W45, st45⟩ := putF X15 hx hZ hown (host := "") (Or.inl (hw _ (List.mem_of_getElem? (i := 53) rfl))) Via.refl e15 F19 F17 (Or.inl (hw _ (List.mem_of_getElem? (i := 54) rfl))) (hw _ (List.mem_of_getElem? (i := 35) rfl)) (ty := .int) (by decide) rfl rfl (g := (mkF m 79 #[.val (.ref a1), .val (.int (0 : Int32)), .val (.int fd)] [(.int (0 : Int32)), (.ref a1)])) rfl rfl (hb hby d10_79)
          refine own_go st45 ?_
          have G45 : Fld Z h45 a1 "com/example/profitmine/profitmine/io/Fields" "start" "I" (.int (0 : Int32)) := F19.same W45
          have N45 := Fr.snoc X45 N15 H15
          show own_Run p e below Φ (T45.setTop (mkF m 82 #[.val (.ref a1), .val (.int (0 : Int32)), .val (.int fd)] []))
          refine own_go (fun t k => XS.aloadN X45.here hx rfl (hb hby d10_82) rfl rfl  k) ?_
          refine own_go (fun t k => XS.iloadN X45.here hx rfl (hb hby d10_83) rfl  k) ?_
          have F46 : Fld Z h45 a1 "com/example/profitmine/profitmine/io/Fields" "end" "I" (.int en) := (F20.other W45 (Or.inr (slot_ne (Or.inl (hw _ (List.mem_of_getElem? (i := 56) rfl))) (Or.inl (hw _ (List.mem_of_getElem? (i := 54) rfl))) (by decide) (t := .int) (t' := .int) (by decide) (by decide))))
          have F47 : Exa Z h45 a1 "com/example/profitmine/profitmine/io/Fields" := (F17.wr W45)
          obtain ⟨T48, h48, X48, e48, W48, st48⟩ := putF X45 hx hZ hown (host := "") (Or.inl (hw _ (List.mem_of_getElem? (i := 55) rfl))) Via.refl e45 F46 F47 (Or.inl (hw _ (List.mem_of_getElem? (i := 56) rfl))) (hw _ (List.mem_of_getElem? (i := 35) rfl)) (ty := .int) (by decide) rfl rfl (g := (mkF m 84 #[.val (.ref a1), .val (.int (0 : Int32)), .val (.int fd)] [(.int (0 : Int32)), (.ref a1)])) rfl rfl (hb hby d10_84)
          refine own_go st48 ?_
          have G48 : Fld Z h48 a1 "com/example/profitmine/profitmine/io/Fields" "end" "I" (.int (0 : Int32)) := F46.same W48
          have N48 := Fr.snoc X48 N45 H15
          refine own_go (fun t k => XS.aloadN X48.here hx rfl (hb hby d10_87) rfl rfl  k) ?_
          obtain ⟨T49, X49, e49, st49⟩ := getF X48 hx hZ hown (host := "") (Or.inl (hw _ (List.mem_of_getElem? (i := 55) rfl))) Via.refl e48 G48 (g := (mkF m 88 #[.val (.ref a1), .val (.int (0 : Int32)), .val (.int fd)] [(.ref a1)])) rfl rfl (hb hby d10_88)
          refine own_go st49 ?_
          refine own_go (fun t k => XS.aloadN X49.here hx rfl (hb hby d10_91) rfl rfl  k) ?_
          have F50 : Fld Z h48 a1 "com/example/profitmine/profitmine/io/Fields" "line" "Ljava/lang/String;" (.ref sx) := ((F18.other W45 (Or.inr (slot_ne (Or.inl (hw _ (List.mem_of_getElem? (i := 45) rfl))) (Or.inl (hw _ (List.mem_of_getElem? (i := 54) rfl))) (by decide) (t := (.object "java/lang/String")) (t' := .int) (by decide) (by decide)))).other W48 (Or.inr (slot_ne (Or.inl (hw _ (List.mem_of_getElem? (i := 45) rfl))) (Or.inl (hw _ (List.mem_of_getElem? (i := 56) rfl))) (by decide) (t := (.object "java/lang/String")) (t' := .int) (by decide) (by decide))))
          obtain ⟨T51, X51, e51, st51⟩ := getF X49 hx hZ hown (host := "") (Or.inl (hw _ (List.mem_of_getElem? (i := 44) rfl))) Via.refl e49 F50 (g := (mkF m 92 #[.val (.ref a1), .val (.int (0 : Int32)), .val (.int fd)] [(.ref a1), (.int (0 : Int32))])) rfl rfl (hb hby d10_92)
          refine own_go st51 ?_
          have F52 : Old Z n0 h48 := ((F22.wr W45 H15).wr W48 H15)
          have F53 : Exa Z h48 sx "java/lang/String" := ((F23.wr W45).wr W48)
          have F54 : Fld Z h48 sx "java/lang/String" "value" "[B" (.ref tx) := ((F24.other W45 (Or.inl H16)).other W48 (Or.inl H16))
          have F55 : Fld Z h48 sx "java/lang/String" "coder" "B" (.int (0 : Int32)) := ((F25.other W45 (Or.inl H16)).other W48 (Or.inl H16))
          have F56 : Arv Z h48 tx kx .byte (3 : Int32) [(.int (y0.toInt8.toInt32)), (.int (y1.toInt8.toInt32)), (.int (y2.toInt8.toInt32))] (.int 0) := ((F26.other W45 H17).other W48 H17)
          refine own_callV X51 hx hZ (y := (⟨"java/lang/String", "length", "()I"⟩ : MethodName)) (z := (⟨"java/lang/String", "length", "()I"⟩ : MethodName)) (W := 1) (a := sx) (argsL := []) (rest := [(.int (0 : Int32))]) hown (hw _ (List.mem_of_getElem? (i := 62) rfl)) (hw _ (List.mem_of_getElem? (i := 63) rfl)) (notFace_of_selects (args := #[]) (mvT hZ (hw _ (List.mem_of_getElem? (i := 65) rfl)))) (hw _ (List.mem_of_getElem? (i := 65) rfl)) (hw _ (List.mem_of_getElem? (i := 64) rfl)) (by decide) (own_bk (rm_le l Z a0 hw sx g1 tx kx _ _ _ h48 n0 F52 H7 hg5 F53 F54 F55 F56) hZ (hw _ (List.mem_of_getElem? (i := 66) rfl)) (hw _ (List.mem_of_getElem? (i := 7) rfl)) (by decide) (by decide)) e51 F53 (g := (mkF m 95 #[.val (.ref a1), .val (.int (0 : Int32)), .val (.int fd)] [(.ref sx), (.int (0 : Int32))])) rfl (by rw [hml]; rfl) (lenOf pd_9 rfl) rfl (by show 2 * 0 + _ ≤ _; exact Nat.le_of_eq rfl) (hb hby d10_95) (own_le hc15 (by decide)) (own_le hs15 (by decide)) (fun v57 T57 h57 L57 X57 e57 q57 => ?_)
          obtain ⟨rfl, M57, s57⟩ := q57
          replace e57 : T57.heap = h48 := e57.trans s57
          have N57 := Fr.app N48 M57
          refine own_go (fun t k => XS.icmpNo X57.here hx rfl (hb hby d10_98) rfl (tlt (by decide : (0 : Int32) < (3 : Int32))).2.1 k) ?_
          show own_Run p e below Φ (T57.setTop (mkF m 101 #[.val (.ref a1), .val (.int (0 : Int32)), .val (.int fd)] []))
          refine own_go (fun t k => XS.aloadN X57.here hx rfl (hb hby d10_101) rfl rfl  k) ?_
          obtain ⟨T58, X58, e58, st58⟩ := getF X57 hx hZ hown (host := "") (Or.inl (hw _ (List.mem_of_getElem? (i := 44) rfl))) Via.refl e57 F50 (g := (mkF m 102 #[.val (.ref a1), .val (.int (0 : Int32)), .val (.int fd)] [(.ref a1)])) rfl rfl (hb hby d10_102)
          refine own_go st58 ?_
          refine own_go (fun t k => XS.aloadN X58.here hx rfl (hb hby d10_105) rfl rfl  k) ?_
          obtain ⟨T59, X59, e59, st59⟩ := getF X58 hx hZ hown (host := "") (Or.inl (hw _ (List.mem_of_getElem? (i := 55) rfl))) Via.refl e58 G48 (g := (mkF m 106 #[.val (.ref a1), .val (.int (0 : Int32)), .val (.int fd)] [(.ref a1), (.ref sx)])) rfl rfl (hb hby d10_106)
          refine own_go st59 ?_
          refine own_callV X59 hx hZ (y := (⟨"java/lang/String", "charAt", "(I)C"⟩ : MethodName)) (z := (⟨"java/lang/String", "charAt", "(I)C"⟩ : MethodName)) (W := 0) (a := sx) (argsL := [(.int (0 : Int32))]) (rest := []) hown (hw _ (List.mem_of_getElem? (i := 72) rfl)) (hw _ (List.mem_of_getElem? (i := 73) rfl)) (notFace_of_selects (args := #[]) (mvT hZ (hw _ (List.mem_of_getElem? (i := 75) rfl)))) (hw _ (List.mem_of_getElem? (i := 75) rfl)) (hw _ (List.mem_of_getElem? (i := 74) rfl)) (by decide) (own_bk (rm_ch0 l Z a0 hw sx g1 g3 tx kx _ _ _ h48 n0 F52 H7 hg5 H9 hr F53 F54 F55 F56 hy.1) hZ (hw _ (List.mem_of_getElem? (i := 76) rfl)) (hw _ (List.mem_of_getElem? (i := 7) rfl)) (by decide) (by decide)) e59 F53 (g := (mkF m 109 #[.val (.ref a1), .val (.int (0 : Int32)), .val (.int fd)] [(.int (0 : Int32)), (.ref sx)])) rfl (by rw [hml]; rfl) (lenOf pd_0 rfl) rfl (by show 2 * 0 + _ ≤ _; exact Nat.le_of_eq rfl) (hb hby d10_109) (own_le (Nat.add_le_add_right hc15 0) (by decide)) (own_le (Nat.add_le_add_right hs15 0) (by decide)) (fun v60 T60 h60 L60 X60 e60 q60 => ?_)
          obtain ⟨rfl, M60, s60⟩ := q60
          replace e60 : T60.heap = h48 := e60.trans s60
          have N60 := Fr.app N57 M60
          refine own_callS X60 hx hZ (y := (⟨"com/example/profitmine/profitmine/io/Fields", "isBlank", "(C)Z"⟩ : MethodName)) (W := 0) (argsL := [(.int y0)]) (rest := []) hown (hw _ (List.mem_of_getElem? (i := 94) rfl)) (hw _ (List.mem_of_getElem? (i := 95) rfl)) (hw _ (List.mem_of_getElem? (i := 36) rfl)) (hw _ (List.mem_of_getElem? (i := 96) rfl)) (by decide) (own_bk (rm_ib l Z a0 hw y0 h48 n0 ) hZ (hw _ (List.mem_of_getElem? (i := 96) rfl)) (hw _ (List.mem_of_getElem? (i := 36) rfl)) (by decide) (by decide)) e60 (g := (mkF m 112 #[.val (.ref a1), .val (.int (0 : Int32)), .val (.int fd)] [(.int y0)])) rfl (by rw [hml]; rfl) (lenOf pd_14 rfl) rfl (by show 2 * 0 + _ ≤ _; exact Nat.le_of_eq rfl) (hb hby d10_112) (own_le (Nat.add_le_add_right (Nat.add_le_add_right hc15 0) 0) (by decide)) (own_le (Nat.add_le_add_right (Nat.add_le_add_right hs15 0) 0) (by decide)) (fun v61 T61 h61 L61 X61 e61 q61 => ?_)
          obtain ⟨rfl, M61, s61⟩ := q61
          replace e61 : T61.heap = h48 := e61.trans s61
          have N61 := Fr.app N60 M61
          by_cases hc115 : (own_blk y0) = (0 : Int32)
          · refine own_go (fun t k => XS.ifNo X61.here hx rfl (hb hby d10_115) rfl ((if0 _ _).trans (teq hc115).2) k) ?_
            refine own_go (fun t k => XS.aloadN X61.here hx rfl (hb hby d10_118) rfl rfl  k) ?_
            refine own_go (fun t k => XS.dup X61.here hx rfl (hb hby d10_119) rfl rfl k) ?_
            show own_Run p e below Φ (T61.setTop (mkF m 120 #[.val (.ref a1), .val (.int (0 : Int32)), .val (.int fd)] [(.ref a1), (.ref a1)]))
            obtain ⟨T62, X62, e62, st62⟩ := getF X61 hx hZ hown (host := "") (Or.inl (hw _ (List.mem_of_getElem? (i := 55) rfl))) Via.refl e61 G48 (g := (mkF m 120 #[.val (.ref a1), .val (.int (0 : Int32)), .val (.int fd)] [(.ref a1), (.ref a1)])) rfl rfl (hb hby d10_120)
            refine own_go st62 ?_
            refine own_go (fun t k => XS.iconst X62.here hx rfl (hb hby d10_123) k) ?_
            refine own_go (fun t k => XS.iadd X62.here hx rfl (hb hby d10_124) rfl k) ?_
            show own_Run p e below Φ (T62.setTop (mkF m 125 #[.val (.ref a1), .val (.int (0 : Int32)), .val (.int fd)] [(.int ((0 : Int32) + (1 : Int32))), (.ref a1)]))
            rw [show ((0 : Int32) + (1 : Int32)) = (1 : Int32) from by decide]
            show own_Run p e below Φ (T62.setTop (mkF m 125 #[.val (.ref a1), .val (.int (0 : Int32)), .val (.int fd)] [(.int (1 : Int32)), (.ref a1)]))
            have F63 : Exa Z h48 a1 "com/example/profitmine/profitmine/io/Fields" := (F47.wr W48)
            obtain ⟨T64, h64, X64, e64, W64, st64⟩ := putF X62 hx hZ hown (host := "") (Or.inl (hw _ (List.mem_of_getElem? (i := 55) rfl))) Via.refl e62 G48 F63 (Or.inl (hw _ (List.mem_of_getElem? (i := 56) rfl))) (hw _ (List.mem_of_getElem? (i := 35) rfl)) (ty := .int) (by decide) rfl rfl (g := (mkF m 125 #[.val (.ref a1), .val (.int (0 : Int32)), .val (.int fd)] [(.int (1 : Int32)), (.ref a1)])) rfl rfl (hb hby d10_125)
            refine own_go st64 ?_
            have G64 : Fld Z h64 a1 "com/example/profitmine/profitmine/io/Fields" "end" "I" (.int (1 : Int32)) := G48.same W64
            have N64 := Fr.snoc X64 N61 H15
            refine own_go (fun t k => XS.goto X64.here hx rfl (pc0 := 128) (pc' := 87) rfl (hb hby d10_128) (by decide) (by decide) k) ?_
            refine own_go (fun t k => XS.aloadN X64.here hx rfl (hb hby d10_87) rfl rfl  k) ?_
            obtain ⟨T65, X65, e65, st65⟩ := getF X64 hx hZ hown (host := "") (Or.inl (hw _ (List.mem_of_getElem? (i := 55) rfl))) Via.refl e64 G64 (g := (mkF m 88 #[.val (.ref a1), .val (.int (0 : Int32)), .val (.int fd)] [(.ref a1)])) rfl rfl (hb hby d10_88)
            refine own_go st65 ?_
            refine own_go (fun t k => XS.aloadN X65.here hx rfl (hb hby d10_91) rfl rfl  k) ?_
            have F66 : Fld Z h64 a1 "com/example/profitmine/profitmine/io/Fields" "line" "Ljava/lang/String;" (.ref sx) := (F50.other W64 (Or.inr (slot_ne (Or.inl (hw _ (List.mem_of_getElem? (i := 45) rfl))) (Or.inl (hw _ (List.mem_of_getElem? (i := 56) rfl))) (by decide) (t := (.object "java/lang/String")) (t' := .int) (by decide) (by decide))))
            obtain ⟨T67, X67, e67, st67⟩ := getF X65 hx hZ hown (host := "") (Or.inl (hw _ (List.mem_of_getElem? (i := 44) rfl))) Via.refl e65 F66 (g := (mkF m 92 #[.val (.ref a1), .val (.int (0 : Int32)), .val (.int fd)] [(.ref a1), (.int (1 : Int32))])) rfl rfl (hb hby d10_92)
            refine own_go st67 ?_
            have F68 : Old Z n0 h64 := (F52.wr W64 H15)
            have F69 : Exa Z h64 sx "java/lang/String" := (F53.wr W64)
            have F70 : Fld Z h64 sx "java/lang/String" "value" "[B" (.ref tx) := (F54.other W64 (Or.inl H16))
            have F71 : Fld Z h64 sx "java/lang/String" "coder" "B" (.int (0 : Int32)) := (F55.other W64 (Or.inl H16))
            have F72 : Arv Z h64 tx kx .byte (3 : Int32) [(.int (y0.toInt8.toInt32)), (.int (y1.toInt8.toInt32)), (.int (y2.toInt8.toInt32))] (.int 0) := (F56.other W64 H17)
            refine own_callV X67 hx hZ (y := (⟨"java/lang/String", "length", "()I"⟩ : MethodName)) (z := (⟨"java/lang/String", "length", "()I"⟩ : MethodName)) (W := 1) (a := sx) (argsL := []) (rest := [(.int (1 : Int32))]) hown (hw _ (List.mem_of_getElem? (i := 62) rfl)) (hw _ (List.mem_of_getElem? (i := 63) rfl)) (notFace_of_selects (args := #[]) (mvT hZ (hw _ (List.mem_of_getElem? (i := 65) rfl)))) (hw _ (List.mem_of_getElem? (i := 65) rfl)) (hw _ (List.mem_of_getElem? (i := 64) rfl)) (by decide) (own_bk (rm_le l Z a0 hw sx g1 tx kx _ _ _ h64 n0 F68 H7 hg5 F69 F70 F71 F72) hZ (hw _ (List.mem_of_getElem? (i := 66) rfl)) (hw _ (List.mem_of_getElem? (i := 7) rfl)) (by decide) (by decide)) e67 F69 (g := (mkF m 95 #[.val (.ref a1), .val (.int (0 : Int32)), .val (.int fd)] [(.ref sx), (.int (1 : Int32))])) rfl (by rw [hml]; rfl) (lenOf pd_9 rfl) rfl (by show 2 * 0 + _ ≤ _; exact Nat.le_of_eq rfl) (hb hby d10_95) (own_le (Nat.add_le_add_right (Nat.add_le_add_right (Nat.add_le_add_right hc15 0) 0) 0) (by decide)) (own_le (Nat.add_le_add_right (Nat.add_le_add_right (Nat.add_le_add_right hs15 0) 0) 0) (by decide)) (fun v73 T73 h73 L73 X73 e73 q73 => ?_)
            obtain ⟨rfl, M73, s73⟩ := q73
            replace e73 : T73.heap = h64 := e73.trans s73
            have N73 := Fr.app N64 M73
            refine own_go (fun t k => XS.icmpNo X73.here hx rfl (hb hby d10_98) rfl (tlt (by decide : (1 : Int32) < (3 : Int32))).2.1 k) ?_
            refine own_go (fun t k => XS.aloadN X73.here hx rfl (hb hby d10_101) rfl rfl  k) ?_
            show own_Run p e below Φ (T73.setTop (mkF m 102 #[.val (.ref a1), .val (.int (0 : Int32)), .val (.int fd)] [(.ref a1)]))
            obtain ⟨T74, X74, e74, st74⟩ := getF X73 hx hZ hown (host := "") (Or.inl (hw _ (List.mem_of_getElem? (i := 44) rfl))) Via.refl e73 F66 (g := (mkF m 102 #[.val (.ref a1), .val (.int (0 : Int32)), .val (.int fd)] [(.ref a1)])) rfl rfl (hb hby d10_102)
            refine own_go st74 ?_
            refine own_go (fun t k => XS.aloadN X74.here hx rfl (hb hby d10_105) rfl rfl  k) ?_
            obtain ⟨T75, X75, e75, st75⟩ := getF X74 hx hZ hown (host := "") (Or.inl (hw _ (List.mem_of_getElem? (i := 55) rfl))) Via.refl e74 G64 (g := (mkF m 106 #[.val (.ref a1), .val (.int (0 : Int32)), .val (.int fd)] [(.ref a1), (.ref sx)])) rfl rfl (hb hby d10_106)
            refine own_go st75 ?_
            refine own_callV X75 hx hZ (y := (⟨"java/lang/String", "charAt", "(I)C"⟩ : MethodName)) (z := (⟨"java/lang/String", "charAt", "(I)C"⟩ : MethodName)) (W := 0) (a := sx) (argsL := [(.int (1 : Int32))]) (rest := []) hown (hw _ (List.mem_of_getElem? (i := 72) rfl)) (hw _ (List.mem_of_getElem? (i := 73) rfl)) (notFace_of_selects (args := #[]) (mvT hZ (hw _ (List.mem_of_getElem? (i := 75) rfl)))) (hw _ (List.mem_of_getElem? (i := 75) rfl)) (hw _ (List.mem_of_getElem? (i := 74) rfl)) (by decide) (own_bk (rm_ch1 l Z a0 hw sx g1 g3 tx kx _ _ _ h64 n0 F68 H7 hg5 H9 hr F69 F70 F71 F72 hy.2.1) hZ (hw _ (List.mem_of_getElem? (i := 76) rfl)) (hw _ (List.mem_of_getElem? (i := 7) rfl)) (by decide) (by decide)) e75 F69 (g := (mkF m 109 #[.val (.ref a1), .val (.int (0 : Int32)), .val (.int fd)] [(.int (1 : Int32)), (.ref sx)])) rfl (by rw [hml]; rfl) (lenOf pd_0 rfl) rfl (by show 2 * 0 + _ ≤ _; exact Nat.le_of_eq rfl) (hb hby d10_109) (own_le (Nat.add_le_add_right (Nat.add_le_add_right (Nat.add_le_add_right (Nat.add_le_add_right hc15 0) 0) 0) 0) (by decide)) (own_le (Nat.add_le_add_right (Nat.add_le_add_right (Nat.add_le_add_right (Nat.add_le_add_right hs15 0) 0) 0) 0) (by decide)) (fun v76 T76 h76 L76 X76 e76 q76 => ?_)
            obtain ⟨rfl, M76, s76⟩ := q76
            replace e76 : T76.heap = h64 := e76.trans s76
            have N76 := Fr.app N73 M76
            refine own_callS X76 hx hZ (y := (⟨"com/example/profitmine/profitmine/io/Fields", "isBlank", "(C)Z"⟩ : MethodName)) (W := 0) (argsL := [(.int y1)]) (rest := []) hown (hw _ (List.mem_of_getElem? (i := 94) rfl)) (hw _ (List.mem_of_getElem? (i := 95) rfl)) (hw _ (List.mem_of_getElem? (i := 36) rfl)) (hw _ (List.mem_of_getElem? (i := 96) rfl)) (by decide) (own_bk (rm_ib l Z a0 hw y1 h64 n0 ) hZ (hw _ (List.mem_of_getElem? (i := 96) rfl)) (hw _ (List.mem_of_getElem? (i := 36) rfl)) (by decide) (by decide)) e76 (g := (mkF m 112 #[.val (.ref a1), .val (.int (0 : Int32)), .val (.int fd)] [(.int y1)])) rfl (by rw [hml]; rfl) (lenOf pd_14 rfl) rfl (by show 2 * 0 + _ ≤ _; exact Nat.le_of_eq rfl) (hb hby d10_112) (own_le (Nat.add_le_add_right (Nat.add_le_add_right (Nat.add_le_add_right (Nat.add_le_add_right (Nat.add_le_add_right hc15 0) 0) 0) 0) 0) (by decide)) (own_le (Nat.add_le_add_right (Nat.add_le_add_right (Nat.add_le_add_right (Nat.add_le_add_right (Nat.add_le_add_right hs15 0) 0) 0) 0) 0) (by decide)) (fun v77 T77 h77 L77 X77 e77 q77 => ?_)
            obtain ⟨rfl, M77, s77⟩ := q77
            replace e77 : T77.heap = h64 := e77.trans s77
            have N77 := Fr.app N76 M77
            by_cases hc115_2 : (own_blk y1) = (0 : Int32)
            · refine own_go (fun t k => XS.ifNo X77.here hx rfl (hb hby d10_115) rfl ((if0 _ _).trans (teq hc115_2).2) k) ?_
              refine own_go (fun t k => XS.aloadN X77.here hx rfl (hb hby d10_118) rfl rfl  k) ?_
              refine own_go (fun t k => XS.dup X77.here hx rfl (hb hby d10_119) rfl rfl k) ?_
              obtain ⟨T78, X78, e78, st78⟩ := getF X77 hx hZ hown (host := "") (Or.inl (hw _ (List.mem_of_getElem? (i := 55) rfl))) Via.refl e77 G64 (g := (mkF m 120 #[.val (.ref a1), .val (.int (0 : Int32)), .val (.int fd)] [(.ref a1), (.ref a1)])) rfl rfl (hb hby d10_120)
              refine own_go st78 ?_
              show own_Run p e below Φ (T78.setTop (mkF m 123 #[.val (.ref a1), .val (.int (0 : Int32)), .val (.int fd)] [(.int (1 : Int32)), (.ref a1)]))
              refine own_go (fun t k => XS.iconst X78.here hx rfl (hb hby d10_123) k) ?_
              refine own_go (fun t k => XS.iadd X78.here hx rfl (hb hby d10_124) rfl k) ?_
              show own_Run p e below Φ (T78.setTop (mkF m 125 #[.val (.ref a1), .val (.int (0 : Int32)), .val (.int fd)] [(.int ((1 : Int32) + (1 : Int32))), (.ref a1)]))
              rw [show ((1 : Int32) + (1 : Int32)) = (2 : Int32) from by decide]
              show own_Run p e below Φ (T78.setTop (mkF m 125 #[.val (.ref a1), .val (.int (0 : Int32)), .val (.int fd)] [(.int (2 : Int32)), (.ref a1)]))
              have F79 : Exa Z h64 a1 "com/example/profitmine/profitmine/io/Fields" := (F63.wr W64)
              obtain ⟨T80, h80, X80, e80, W80, st80⟩ := putF X78 hx hZ hown (host := "") (Or.inl (hw _ (List.mem_of_getElem? (i := 55) rfl))) Via.refl e78 G64 F79 (Or.inl (hw _ (List.mem_of_getElem? (i := 56) rfl))) (hw _ (List.mem_of_getElem? (i := 35) rfl)) (ty := .int) (by decide) rfl rfl (g := (mkF m 125 #[.val (.ref a1), .val (.int (0 : Int32)), .val (.int fd)] [(.int (2 : Int32)), (.ref a1)])) rfl rfl (hb hby d10_125)
              refine own_go st80 ?_
              have G80 : Fld Z h80 a1 "com/example/profitmine/profitmine/io/Fields" "end" "I" (.int (2 : Int32)) := G64.same W80
              have N80 := Fr.snoc X80 N77 H15
              refine own_go (fun t k => XS.goto X80.here hx rfl (pc0 := 128) (pc' := 87) rfl (hb hby d10_128) (by decide) (by decide) k) ?_
              refine own_go (fun t k => XS.aloadN X80.here hx rfl (hb hby d10_87) rfl rfl  k) ?_
              obtain ⟨T81, X81, e81, st81⟩ := getF X80 hx hZ hown (host := "") (Or.inl (hw _ (List.mem_of_getElem? (i := 55) rfl))) Via.refl e80 G80 (g := (mkF m 88 #[.val (.ref a1), .val (.int (0 : Int32)), .val (.int fd)] [(.ref a1)])) rfl rfl (hb hby d10_88)
              refine own_go st81 ?_
              refine own_go (fun t k => XS.aloadN X81.here hx rfl (hb hby d10_91) rfl rfl  k) ?_
              have F82 : Fld Z h80 a1 "com/example/profitmine/profitmine/io/Fields" "line" "Ljava/lang/String;" (.ref sx) := (F66.other W80 (Or.inr (slot_ne (Or.inl (hw _ (List.mem_of_getElem? (i := 45) rfl))) (Or.inl (hw _ (List.mem_of_getElem? (i := 56) rfl))) (by decide) (t := (.object "java/lang/String")) (t' := .int) (by decide) (by decide))))
              obtain ⟨T83, X83, e83, st83⟩ := getF X81 hx hZ hown (host := "") (Or.inl (hw _ (List.mem_of_getElem? (i := 44) rfl))) Via.refl e81 F82 (g := (mkF m 92 #[.val (.ref a1), .val (.int (0 : Int32)), .val (.int fd)] [(.ref a1), (.int (2 : Int32))])) rfl rfl (hb hby d10_92)
              refine own_go st83 ?_
              have F84 : Old Z n0 h80 := (F68.wr W80 H15)
              have F85 : Exa Z h80 sx "java/lang/String" := (F69.wr W80)
              have F86 : Fld Z h80 sx "java/lang/String" "value" "[B" (.ref tx) := (F70.other W80 (Or.inl H16))
              have F87 : Fld Z h80 sx "java/lang/String" "coder" "B" (.int (0 : Int32)) := (F71.other W80 (Or.inl H16))
              have F88 : Arv Z h80 tx kx .byte (3 : Int32) [(.int (y0.toInt8.toInt32)), (.int (y1.toInt8.toInt32)), (.int (y2.toInt8.toInt32))] (.int 0) := (F72.other W80 H17)
              refine own_callV X83 hx hZ (y := (⟨"java/lang/String", "length", "()I"⟩ : MethodName)) (z := (⟨"java/lang/String", "length", "()I"⟩ : MethodName)) (W := 1) (a := sx) (argsL := []) (rest := [(.int (2 : Int32))]) hown (hw _ (List.mem_of_getElem? (i := 62) rfl)) (hw _ (List.mem_of_getElem? (i := 63) rfl)) (notFace_of_selects (args := #[]) (mvT hZ (hw _ (List.mem_of_getElem? (i := 65) rfl)))) (hw _ (List.mem_of_getElem? (i := 65) rfl)) (hw _ (List.mem_of_getElem? (i := 64) rfl)) (by decide) (own_bk (rm_le l Z a0 hw sx g1 tx kx _ _ _ h80 n0 F84 H7 hg5 F85 F86 F87 F88) hZ (hw _ (List.mem_of_getElem? (i := 66) rfl)) (hw _ (List.mem_of_getElem? (i := 7) rfl)) (by decide) (by decide)) e83 F85 (g := (mkF m 95 #[.val (.ref a1), .val (.int (0 : Int32)), .val (.int fd)] [(.ref sx), (.int (2 : Int32))])) rfl (by rw [hml]; rfl) (lenOf pd_9 rfl) rfl (by show 2 * 0 + _ ≤ _; exact Nat.le_of_eq rfl) (hb hby d10_95) (own_le (Nat.add_le_add_right (Nat.add_le_add_right (Nat.add_le_add_right (Nat.add_le_add_right (Nat.add_le_add_right (Nat.add_le_add_right hc15 0) 0) 0) 0) 0) 0) (by decide)) (own_le (Nat.add_le_add_right (Nat.add_le_add_right (Nat.add_le_add_right (Nat.add_le_add_right (Nat.add_le_add_right (Nat.add_le_add_right hs15 0) 0) 0) 0) 0) 0) (by decide)) (fun v89 T89 h89 L89 X89 e89 q89 => ?_)
              obtain ⟨rfl, M89, s89⟩ := q89
              replace e89 : T89.heap = h80 := e89.trans s89
              have N89 := Fr.app N80 M89
              refine own_go (fun t k => XS.icmpNo X89.here hx rfl (hb hby d10_98) rfl (tlt (by decide : (2 : Int32) < (3 : Int32))).2.1 k) ?_
              refine own_go (fun t k => XS.aloadN X89.here hx rfl (hb hby d10_101) rfl rfl  k) ?_
              show own_Run p e below Φ (T89.setTop (mkF m 102 #[.val (.ref a1), .val (.int (0 : Int32)), .val (.int fd)] [(.ref a1)]))
              obtain ⟨T90, X90, e90, st90⟩ := getF X89 hx hZ hown (host := "") (Or.inl (hw _ (List.mem_of_getElem? (i := 44) rfl))) Via.refl e89 F82 (g := (mkF m 102 #[.val (.ref a1), .val (.int (0 : Int32)), .val (.int fd)] [(.ref a1)])) rfl rfl (hb hby d10_102)
              refine own_go st90 ?_
              refine own_go (fun t k => XS.aloadN X90.here hx rfl (hb hby d10_105) rfl rfl  k) ?_
              obtain ⟨T91, X91, e91, st91⟩ := getF X90 hx hZ hown (host := "") (Or.inl (hw _ (List.mem_of_getElem? (i := 55) rfl))) Via.refl e90 G80 (g := (mkF m 106 #[.val (.ref a1), .val (.int (0 : Int32)), .val (.int fd)] [(.ref a1), (.ref sx)])) rfl rfl (hb hby d10_106)
              refine own_go st91 ?_
              refine own_callV X91 hx hZ (y := (⟨"java/lang/String", "charAt", "(I)C"⟩ : MethodName)) (z := (⟨"java/lang/String", "charAt", "(I)C"⟩ : MethodName)) (W := 0) (a := sx) (argsL := [(.int (2 : Int32))]) (rest := []) hown (hw _ (List.mem_of_getElem? (i := 72) rfl)) (hw _ (List.mem_of_getElem? (i := 73) rfl)) (notFace_of_selects (args := #[]) (mvT hZ (hw _ (List.mem_of_getElem? (i := 75) rfl)))) (hw _ (List.mem_of_getElem? (i := 75) rfl)) (hw _ (List.mem_of_getElem? (i := 74) rfl)) (by decide) (own_bk (rm_ch2 l Z a0 hw sx g1 g3 tx kx _ _ _ h80 n0 F84 H7 hg5 H9 hr F85 F86 F87 F88 hy.2.2) hZ (hw _ (List.mem_of_getElem? (i := 76) rfl)) (hw _ (List.mem_of_getElem? (i := 7) rfl)) (by decide) (by decide)) e91 F85 (g := (mkF m 109 #[.val (.ref a1), .val (.int (0 : Int32)), .val (.int fd)] [(.int (2 : Int32)), (.ref sx)])) rfl (by rw [hml]; rfl) (lenOf pd_0 rfl) rfl (by show 2 * 0 + _ ≤ _; exact Nat.le_of_eq rfl) (hb hby d10_109) (own_le (Nat.add_le_add_right (Nat.add_le_add_right (Nat.add_le_add_right (Nat.add_le_add_right (Nat.add_le_add_right (Nat.add_le_add_right (Nat.add_le_add_right hc15 0) 0) 0) 0) 0) 0) 0) (by decide)) (own_le (Nat.add_le_add_right (Nat.add_le_add_right (Nat.add_le_add_right (Nat.add_le_add_right (Nat.add_le_add_right (Nat.add_le_add_right (Nat.add_le_add_right hs15 0) 0) 0) 0) 0) 0) 0) (by decide)) (fun v92 T92 h92 L92 X92 e92 q92 => ?_)
              obtain ⟨rfl, M92, s92⟩ := q92
              replace e92 : T92.heap = h80 := e92.trans s92
              have N92 := Fr.app N89 M92
              refine own_callS X92 hx hZ (y := (⟨"com/example/profitmine/profitmine/io/Fields", "isBlank", "(C)Z"⟩ : MethodName)) (W := 0) (argsL := [(.int y2)]) (rest := []) hown (hw _ (List.mem_of_getElem? (i := 94) rfl)) (hw _ (List.mem_of_getElem? (i := 95) rfl)) (hw _ (List.mem_of_getElem? (i := 36) rfl)) (hw _ (List.mem_of_getElem? (i := 96) rfl)) (by decide) (own_bk (rm_ib l Z a0 hw y2 h80 n0 ) hZ (hw _ (List.mem_of_getElem? (i := 96) rfl)) (hw _ (List.mem_of_getElem? (i := 36) rfl)) (by decide) (by decide)) e92 (g := (mkF m 112 #[.val (.ref a1), .val (.int (0 : Int32)), .val (.int fd)] [(.int y2)])) rfl (by rw [hml]; rfl) (lenOf pd_14 rfl) rfl (by show 2 * 0 + _ ≤ _; exact Nat.le_of_eq rfl) (hb hby d10_112) (own_le (Nat.add_le_add_right (Nat.add_le_add_right (Nat.add_le_add_right (Nat.add_le_add_right (Nat.add_le_add_right (Nat.add_le_add_right (Nat.add_le_add_right (Nat.add_le_add_right hc15 0) 0) 0) 0) 0) 0) 0) 0) (by decide)) (own_le (Nat.add_le_add_right (Nat.add_le_add_right (Nat.add_le_add_right (Nat.add_le_add_right (Nat.add_le_add_right (Nat.add_le_add_right (Nat.add_le_add_right (Nat.add_le_add_right hs15 0) 0) 0) 0) 0) 0) 0) 0) (by decide)) (fun v93 T93 h93 L93 X93 e93 q93 => ?_)
              obtain ⟨rfl, M93, s93⟩ := q93
              replace e93 : T93.heap = h80 := e93.trans s93
              have N93 := Fr.app N92 M93
              by_cases hc115_3 : (own_blk y2) = (0 : Int32)
              · refine own_go (fun t k => XS.ifNo X93.here hx rfl (hb hby d10_115) rfl ((if0 _ _).trans (teq hc115_3).2) k) ?_
                refine own_go (fun t k => XS.aloadN X93.here hx rfl (hb hby d10_118) rfl rfl  k) ?_
                refine own_go (fun t k => XS.dup X93.here hx rfl (hb hby d10_119) rfl rfl k) ?_
                obtain ⟨T94, X94, e94, st94⟩ := getF X93 hx hZ hown (host := "") (Or.inl (hw _ (List.mem_of_getElem? (i := 55) rfl))) Via.refl e93 G80 (g := (mkF m 120 #[.val (.ref a1), .val (.int (0 : Int32)), .val (.int fd)] [(.ref a1), (.ref a1)])) rfl rfl (hb hby d10_120)
                refine own_go st94 ?_
                show own_Run p e below Φ (T94.setTop (mkF m 123 #[.val (.ref a1), .val (.int (0 : Int32)), .val (.int fd)] [(.int (2 : Int32)), (.ref a1)]))
                refine own_go (fun t k => XS.iconst X94.here hx rfl (hb hby d10_123) k) ?_
                refine own_go (fun t k => XS.iadd X94.here hx rfl (hb hby d10_124) rfl k) ?_
                show own_Run p e below Φ (T94.setTop (mkF m 125 #[.val (.ref a1), .val (.int (0 : Int32)), .val (.int fd)] [(.int ((2 : Int32) + (1 : Int32))), (.ref a1)]))
                rw [show ((2 : Int32) + (1 : Int32)) = (3 : Int32) from by decide]
                show own_Run p e below Φ (T94.setTop (mkF m 125 #[.val (.ref a1), .val (.int (0 : Int32)), .val (.int fd)] [(.int (3 : Int32)), (.ref a1)]))
                have F95 : Exa Z h80 a1 "com/example/profitmine/profitmine/io/Fields" := (F79.wr W80)
                obtain ⟨T96, h96, X96, e96, W96, st96⟩ := putF X94 hx hZ hown (host := "") (Or.inl (hw _ (List.mem_of_getElem? (i := 55) rfl))) Via.refl e94 G80 F95 (Or.inl (hw _ (List.mem_of_getElem? (i := 56) rfl))) (hw _ (List.mem_of_getElem? (i := 35) rfl)) (ty := .int) (by decide) rfl rfl (g := (mkF m 125 #[.val (.ref a1), .val (.int (0 : Int32)), .val (.int fd)] [(.int (3 : Int32)), (.ref a1)])) rfl rfl (hb hby d10_125)
                refine own_go st96 ?_
                have G96 : Fld Z h96 a1 "com/example/profitmine/profitmine/io/Fields" "end" "I" (.int (3 : Int32)) := G80.same W96
                have N96 := Fr.snoc X96 N93 H15
                refine own_go (fun t k => XS.goto X96.here hx rfl (pc0 := 128) (pc' := 87) rfl (hb hby d10_128) (by decide) (by decide) k) ?_
                refine own_go (fun t k => XS.aloadN X96.here hx rfl (hb hby d10_87) rfl rfl  k) ?_
                obtain ⟨T97, X97, e97, st97⟩ := getF X96 hx hZ hown (host := "") (Or.inl (hw _ (List.mem_of_getElem? (i := 55) rfl))) Via.refl e96 G96 (g := (mkF m 88 #[.val (.ref a1), .val (.int (0 : Int32)), .val (.int fd)] [(.ref a1)])) rfl rfl (hb hby d10_88)
                refine own_go st97 ?_
                refine own_go (fun t k => XS.aloadN X97.here hx rfl (hb hby d10_91) rfl rfl  k) ?_
                have F98 : Fld Z h96 a1 "com/example/profitmine/profitmine/io/Fields" "line" "Ljava/lang/String;" (.ref sx) := (F82.other W96 (Or.inr (slot_ne (Or.inl (hw _ (List.mem_of_getElem? (i := 45) rfl))) (Or.inl (hw _ (List.mem_of_getElem? (i := 56) rfl))) (by decide) (t := (.object "java/lang/String")) (t' := .int) (by decide) (by decide))))
                obtain ⟨T99, X99, e99, st99⟩ := getF X97 hx hZ hown (host := "") (Or.inl (hw _ (List.mem_of_getElem? (i := 44) rfl))) Via.refl e97 F98 (g := (mkF m 92 #[.val (.ref a1), .val (.int (0 : Int32)), .val (.int fd)] [(.ref a1), (.int (3 : Int32))])) rfl rfl (hb hby d10_92)
                refine own_go st99 ?_
                have F100 : Old Z n0 h96 := (F84.wr W96 H15)
                have F101 : Exa Z h96 sx "java/lang/String" := (F85.wr W96)
                have F102 : Fld Z h96 sx "java/lang/String" "value" "[B" (.ref tx) := (F86.other W96 (Or.inl H16))
                have F103 : Fld Z h96 sx "java/lang/String" "coder" "B" (.int (0 : Int32)) := (F87.other W96 (Or.inl H16))
                have F104 : Arv Z h96 tx kx .byte (3 : Int32) [(.int (y0.toInt8.toInt32)), (.int (y1.toInt8.toInt32)), (.int (y2.toInt8.toInt32))] (.int 0) := (F88.other W96 H17)
                refine own_callV X99 hx hZ (y := (⟨"java/lang/String", "length", "()I"⟩ : MethodName)) (z := (⟨"java/lang/String", "length", "()I"⟩ : MethodName)) (W := 1) (a := sx) (argsL := []) (rest := [(.int (3 : Int32))]) hown (hw _ (List.mem_of_getElem? (i := 62) rfl)) (hw _ (List.mem_of_getElem? (i := 63) rfl)) (notFace_of_selects (args := #[]) (mvT hZ (hw _ (List.mem_of_getElem? (i := 65) rfl)))) (hw _ (List.mem_of_getElem? (i := 65) rfl)) (hw _ (List.mem_of_getElem? (i := 64) rfl)) (by decide) (own_bk (rm_le l Z a0 hw sx g1 tx kx _ _ _ h96 n0 F100 H7 hg5 F101 F102 F103 F104) hZ (hw _ (List.mem_of_getElem? (i := 66) rfl)) (hw _ (List.mem_of_getElem? (i := 7) rfl)) (by decide) (by decide)) e99 F101 (g := (mkF m 95 #[.val (.ref a1), .val (.int (0 : Int32)), .val (.int fd)] [(.ref sx), (.int (3 : Int32))])) rfl (by rw [hml]; rfl) (lenOf pd_9 rfl) rfl (by show 2 * 0 + _ ≤ _; exact Nat.le_of_eq rfl) (hb hby d10_95) (own_le (Nat.add_le_add_right (Nat.add_le_add_right (Nat.add_le_add_right (Nat.add_le_add_right (Nat.add_le_add_right (Nat.add_le_add_right (Nat.add_le_add_right (Nat.add_le_add_right (Nat.add_le_add_right hc15 0) 0) 0) 0) 0) 0) 0) 0) 0) (by decide)) (own_le (Nat.add_le_add_right (Nat.add_le_add_right (Nat.add_le_add_right (Nat.add_le_add_right (Nat.add_le_add_right (Nat.add_le_add_right (Nat.add_le_add_right (Nat.add_le_add_right (Nat.add_le_add_right hs15 0) 0) 0) 0) 0) 0) 0) 0) 0) (by decide)) (fun v105 T105 h105 L105 X105 e105 q105 => ?_)
                obtain ⟨rfl, M105, s105⟩ := q105
                replace e105 : T105.heap = h96 := e105.trans s105
                have N105 := Fr.app N96 M105
                refine own_go (fun t k => XS.icmpYes X105.here hx rfl (pc0 := 98) (pc' := 131) rfl (hb hby d10_98) rfl (flt (by decide : ¬ ((3 : Int32) < (3 : Int32)))).2.1 (by decide) (by decide) k) ?_
                refine own_go (fun t k => XS.aloadN X105.here hx rfl (hb hby d10_131) rfl rfl  k) ?_
                show own_Run p e below Φ (T105.setTop (mkF m 132 #[.val (.ref a1), .val (.int (0 : Int32)), .val (.int fd)] [(.ref a1)]))
                refine own_go (fun t k => XS.dup X105.here hx rfl (hb hby d10_132) rfl rfl k) ?_
                have F106 : Fld Z h96 a1 "com/example/profitmine/profitmine/io/Fields" "count" "I" (.int cn) := (((((F21.other W45 (Or.inr (slot_ne (Or.inl (hw _ (List.mem_of_getElem? (i := 52) rfl))) (Or.inl (hw _ (List.mem_of_getElem? (i := 54) rfl))) (by decide) (t := .int) (t' := .int) (by decide) (by decide)))).other W48 (Or.inr (slot_ne (Or.inl (hw _ (List.mem_of_getElem? (i := 52) rfl))) (Or.inl (hw _ (List.mem_of_getElem? (i := 56) rfl))) (by decide) (t := .int) (t' := .int) (by decide) (by decide)))).other W64 (Or.inr (slot_ne (Or.inl (hw _ (List.mem_of_getElem? (i := 52) rfl))) (Or.inl (hw _ (List.mem_of_getElem? (i := 56) rfl))) (by decide) (t := .int) (t' := .int) (by decide) (by decide)))).other W80 (Or.inr (slot_ne (Or.inl (hw _ (List.mem_of_getElem? (i := 52) rfl))) (Or.inl (hw _ (List.mem_of_getElem? (i := 56) rfl))) (by decide) (t := .int) (t' := .int) (by decide) (by decide)))).other W96 (Or.inr (slot_ne (Or.inl (hw _ (List.mem_of_getElem? (i := 52) rfl))) (Or.inl (hw _ (List.mem_of_getElem? (i := 56) rfl))) (by decide) (t := .int) (t' := .int) (by decide) (by decide))))
                obtain ⟨T107, X107, e107, st107⟩ := getF X105 hx hZ hown (host := "") (Or.inl (hw _ (List.mem_of_getElem? (i := 51) rfl))) Via.refl e105 F106 (g := (mkF m 133 #[.val (.ref a1), .val (.int (0 : Int32)), .val (.int fd)] [(.ref a1), (.ref a1)])) rfl rfl (hb hby d10_133)
                refine own_go st107 ?_
                refine own_go (fun t k => XS.iconst X107.here hx rfl (hb hby d10_136) k) ?_
                refine own_go (fun t k => XS.iadd X107.here hx rfl (hb hby d10_137) rfl k) ?_
                have F108 : Exa Z h96 a1 "com/example/profitmine/profitmine/io/Fields" := (F95.wr W96)
                obtain ⟨T109, h109, X109, e109, W109, st109⟩ := putF X107 hx hZ hown (host := "") (Or.inl (hw _ (List.mem_of_getElem? (i := 51) rfl))) Via.refl e107 F106 F108 (Or.inl (hw _ (List.mem_of_getElem? (i := 52) rfl))) (hw _ (List.mem_of_getElem? (i := 35) rfl)) (ty := .int) (by decide) rfl rfl (g := (mkF m 138 #[.val (.ref a1), .val (.int (0 : Int32)), .val (.int fd)] [(.int (cn + (1 : Int32))), (.ref a1)])) rfl rfl (hb hby d10_138)
                refine own_go st109 ?_
                have G109 : Fld Z h109 a1 "com/example/profitmine/profitmine/io/Fields" "count" "I" (.int (cn + (1 : Int32))) := F106.same W109
                have N109 := Fr.snoc X109 N105 H15
                refine own_go (fun t k => XS.goto X109.here hx rfl (pc0 := 141) (pc' := 166) rfl (hb hby d10_141) (by decide) (by decide) k) ?_
                refine own_go (fun t k => XS.iloadN X109.here hx rfl (hb hby d10_166) rfl  k) ?_
                have F110 : Keep h0 h109 [a1] := ((((((F16.wr W45 (Or.inl (List.mem_of_getElem? (i := 0) rfl))).wr W48 (Or.inl (List.mem_of_getElem? (i := 0) rfl))).wr W64 (Or.inl (List.mem_of_getElem? (i := 0) rfl))).wr W80 (Or.inl (List.mem_of_getElem? (i := 0) rfl))).wr W96 (Or.inl (List.mem_of_getElem? (i := 0) rfl))).wr W109 (Or.inl (List.mem_of_getElem? (i := 0) rfl)))
                have F111 : Fld Z h109 a1 "com/example/profitmine/profitmine/io/Fields" "line" "Ljava/lang/String;" (.ref sx) := (F98.other W109 (Or.inr (slot_ne (Or.inl (hw _ (List.mem_of_getElem? (i := 45) rfl))) (Or.inl (hw _ (List.mem_of_getElem? (i := 52) rfl))) (by decide) (t := (.object "java/lang/String")) (t' := .int) (by decide) (by decide))))
                have F112 : Fld Z h109 a1 "com/example/profitmine/profitmine/io/Fields" "start" "I" (.int (0 : Int32)) := (((((G45.other W48 (Or.inr (slot_ne (Or.inl (hw _ (List.mem_of_getElem? (i := 54) rfl))) (Or.inl (hw _ (List.mem_of_getElem? (i := 56) rfl))) (by decide) (t := .int) (t' := .int) (by decide) (by decide)))).other W64 (Or.inr (slot_ne (Or.inl (hw _ (List.mem_of_getElem? (i := 54) rfl))) (Or.inl (hw _ (List.mem_of_getElem? (i := 56) rfl))) (by decide) (t := .int) (t' := .int) (by decide) (by decide)))).other W80 (Or.inr (slot_ne (Or.inl (hw _ (List.mem_of_getElem? (i := 54) rfl))) (Or.inl (hw _ (List.mem_of_getElem? (i := 56) rfl))) (by decide) (t := .int) (t' := .int) (by decide) (by decide)))).other W96 (Or.inr (slot_ne (Or.inl (hw _ (List.mem_of_getElem? (i := 54) rfl))) (Or.inl (hw _ (List.mem_of_getElem? (i := 56) rfl))) (by decide) (t := .int) (t' := .int) (by decide) (by decide)))).other W109 (Or.inr (slot_ne (Or.inl (hw _ (List.mem_of_getElem? (i := 54) rfl))) (Or.inl (hw _ (List.mem_of_getElem? (i := 52) rfl))) (by decide) (t := .int) (t' := .int) (by decide) (by decide))))
                have F113 : Fld Z h109 a1 "com/example/profitmine/profitmine/io/Fields" "end" "I" (.int (3 : Int32)) := (G96.other W109 (Or.inr (slot_ne (Or.inl (hw _ (List.mem_of_getElem? (i := 56) rfl))) (Or.inl (hw _ (List.mem_of_getElem? (i := 52) rfl))) (by decide) (t := .int) (t' := .int) (by decide) (by decide))))
                subst hΦ
                exact own_retN X109 hx (t := .boolean) Bd.returns (by simp) hlk (hb hby d10_167) e109 ⟨⟨_, rfl⟩, N109, F110, F111, ⟨_, _, _, F112, F113, G109, (by decide)⟩⟩ (Nat.le_trans (Nat.add_le_add_right (Nat.add_le_add_right (Nat.add_le_add_right (Nat.add_le_add_right (Nat.add_le_add_right (Nat.add_le_add_right (Nat.add_le_add_right (Nat.add_le_add_right (Nat.add_le_add_right (Nat.add_le_add_right hc15 0) 0) 0) 0) 0) 0) 0) 0) 0) 0) (by decide)) (Nat.le_trans (Nat.add_le_add_right (Nat.add_le_add_right (Nat.add_le_add_right (Nat.add_le_add_right (Nat.add_le_add_right (Nat.add_le_add_right (Nat.add_le_add_right (Nat.add_le_add_right (Nat.add_le_add_right (Nat.add_le_add_right hs15 0) 0) 0) 0) 0) 0) 0) 0) 0) 0) (by decide))
              · refine own_go (fun t k => XS.ifYes X93.here hx rfl (pc0 := 115) (pc' := 131) rfl (hb hby d10_115) rfl ((if0 _ _).trans (feq hc115_3).2) (by decide) (by decide) k) ?_
                refine own_go (fun t k => XS.aloadN X93.here hx rfl (hb hby d10_131) rfl rfl  k) ?_
                show own_Run p e below Φ (T93.setTop (mkF m 132 #[.val (.ref a1), .val (.int (0 : Int32)), .val (.int fd)] [(.ref a1)]))
                refine own_go (fun t k => XS.dup X93.here hx rfl (hb hby d10_132) rfl rfl k) ?_
                have F114 : Fld Z h80 a1 "com/example/profitmine/profitmine/io/Fields" "count" "I" (.int cn) := ((((F21.other W45 (Or.inr (slot_ne (Or.inl (hw _ (List.mem_of_getElem? (i := 52) rfl))) (Or.inl (hw _ (List.mem_of_getElem? (i := 54) rfl))) (by decide) (t := .int) (t' := .int) (by decide) (by decide)))).other W48 (Or.inr (slot_ne (Or.inl (hw _ (List.mem_of_getElem? (i := 52) rfl))) (Or.inl (hw _ (List.mem_of_getElem? (i := 56) rfl))) (by decide) (t := .int) (t' := .int) (by decide) (by decide)))).other W64 (Or.inr (slot_ne (Or.inl (hw _ (List.mem_of_getElem? (i := 52) rfl))) (Or.inl (hw _ (List.mem_of_getElem? (i := 56) rfl))) (by decide) (t := .int) (t' := .int) (by decide) (by decide)))).other W80 (Or.inr (slot_ne (Or.inl (hw _ (List.mem_of_getElem? (i := 52) rfl))) (Or.inl (hw _ (List.mem_of_getElem? (i := 56) rfl))) (by decide) (t := .int) (t' := .int) (by decide) (by decide))))
                obtain ⟨T115, X115, e115, st115⟩ := getF X93 hx hZ hown (host := "") (Or.inl (hw _ (List.mem_of_getElem? (i := 51) rfl))) Via.refl e93 F114 (g := (mkF m 133 #[.val (.ref a1), .val (.int (0 : Int32)), .val (.int fd)] [(.ref a1), (.ref a1)])) rfl rfl (hb hby d10_133)
                refine own_go st115 ?_
                refine own_go (fun t k => XS.iconst X115.here hx rfl (hb hby d10_136) k) ?_
                refine own_go (fun t k => XS.iadd X115.here hx rfl (hb hby d10_137) rfl k) ?_
                have F116 : Exa Z h80 a1 "com/example/profitmine/profitmine/io/Fields" := (F79.wr W80)
                obtain ⟨T117, h117, X117, e117, W117, st117⟩ := putF X115 hx hZ hown (host := "") (Or.inl (hw _ (List.mem_of_getElem? (i := 51) rfl))) Via.refl e115 F114 F116 (Or.inl (hw _ (List.mem_of_getElem? (i := 52) rfl))) (hw _ (List.mem_of_getElem? (i := 35) rfl)) (ty := .int) (by decide) rfl rfl (g := (mkF m 138 #[.val (.ref a1), .val (.int (0 : Int32)), .val (.int fd)] [(.int (cn + (1 : Int32))), (.ref a1)])) rfl rfl (hb hby d10_138)
                refine own_go st117 ?_
                have G117 : Fld Z h117 a1 "com/example/profitmine/profitmine/io/Fields" "count" "I" (.int (cn + (1 : Int32))) := F114.same W117
                have N117 := Fr.snoc X117 N93 H15
                refine own_go (fun t k => XS.goto X117.here hx rfl (pc0 := 141) (pc' := 166) rfl (hb hby d10_141) (by decide) (by decide) k) ?_
                refine own_go (fun t k => XS.iloadN X117.here hx rfl (hb hby d10_166) rfl  k) ?_
                have F118 : Keep h0 h117 [a1] := (((((F16.wr W45 (Or.inl (List.mem_of_getElem? (i := 0) rfl))).wr W48 (Or.inl (List.mem_of_getElem? (i := 0) rfl))).wr W64 (Or.inl (List.mem_of_getElem? (i := 0) rfl))).wr W80 (Or.inl (List.mem_of_getElem? (i := 0) rfl))).wr W117 (Or.inl (List.mem_of_getElem? (i := 0) rfl)))
                have F119 : Fld Z h117 a1 "com/example/profitmine/profitmine/io/Fields" "line" "Ljava/lang/String;" (.ref sx) := (F82.other W117 (Or.inr (slot_ne (Or.inl (hw _ (List.mem_of_getElem? (i := 45) rfl))) (Or.inl (hw _ (List.mem_of_getElem? (i := 52) rfl))) (by decide) (t := (.object "java/lang/String")) (t' := .int) (by decide) (by decide))))
                have F120 : Fld Z h117 a1 "com/example/profitmine/profitmine/io/Fields" "start" "I" (.int (0 : Int32)) := ((((G45.other W48 (Or.inr (slot_ne (Or.inl (hw _ (List.mem_of_getElem? (i := 54) rfl))) (Or.inl (hw _ (List.mem_of_getElem? (i := 56) rfl))) (by decide) (t := .int) (t' := .int) (by decide) (by decide)))).other W64 (Or.inr (slot_ne (Or.inl (hw _ (List.mem_of_getElem? (i := 54) rfl))) (Or.inl (hw _ (List.mem_of_getElem? (i := 56) rfl))) (by decide) (t := .int) (t' := .int) (by decide) (by decide)))).other W80 (Or.inr (slot_ne (Or.inl (hw _ (List.mem_of_getElem? (i := 54) rfl))) (Or.inl (hw _ (List.mem_of_getElem? (i := 56) rfl))) (by decide) (t := .int) (t' := .int) (by decide) (by decide)))).other W117 (Or.inr (slot_ne (Or.inl (hw _ (List.mem_of_getElem? (i := 54) rfl))) (Or.inl (hw _ (List.mem_of_getElem? (i := 52) rfl))) (by decide) (t := .int) (t' := .int) (by decide) (by decide))))
                have F121 : Fld Z h117 a1 "com/example/profitmine/profitmine/io/Fields" "end" "I" (.int (2 : Int32)) := (G80.other W117 (Or.inr (slot_ne (Or.inl (hw _ (List.mem_of_getElem? (i := 56) rfl))) (Or.inl (hw _ (List.mem_of_getElem? (i := 52) rfl))) (by decide) (t := .int) (t' := .int) (by decide) (by decide))))
                subst hΦ
                exact own_retN X117 hx (t := .boolean) Bd.returns (by simp) hlk (hb hby d10_167) e117 ⟨⟨_, rfl⟩, N117, F118, F119, ⟨_, _, _, F120, F121, G117, (by decide)⟩⟩ (Nat.le_trans (Nat.add_le_add_right (Nat.add_le_add_right (Nat.add_le_add_right (Nat.add_le_add_right (Nat.add_le_add_right (Nat.add_le_add_right (Nat.add_le_add_right (Nat.add_le_add_right (Nat.add_le_add_right hc15 0) 0) 0) 0) 0) 0) 0) 0) 0) (by decide)) (Nat.le_trans (Nat.add_le_add_right (Nat.add_le_add_right (Nat.add_le_add_right (Nat.add_le_add_right (Nat.add_le_add_right (Nat.add_le_add_right (Nat.add_le_add_right (Nat.add_le_add_right (Nat.add_le_add_right hs15 0) 0) 0) 0) 0) 0) 0) 0) 0) (by decide))
            · refine own_go (fun t k => XS.ifYes X77.here hx rfl (pc0 := 115) (pc' := 131) rfl (hb hby d10_115) rfl ((if0 _ _).trans (feq hc115_2).2) (by decide) (by decide) k) ?_
              refine own_go (fun t k => XS.aloadN X77.here hx rfl (hb hby d10_131) rfl rfl  k) ?_
              show own_Run p e below Φ (T77.setTop (mkF m 132 #[.val (.ref a1), .val (.int (0 : Int32)), .val (.int fd)] [(.ref a1)]))
              refine own_go (fun t k => XS.dup X77.here hx rfl (hb hby d10_132) rfl rfl k) ?_
              have F122 : Fld Z h64 a1 "com/example/profitmine/profitmine/io/Fields" "count" "I" (.int cn) := (((F21.other W45 (Or.inr (slot_ne (Or.inl (hw _ (List.mem_of_getElem? (i := 52) rfl))) (Or.inl (hw _ (List.mem_of_getElem? (i := 54) rfl))) (by decide) (t := .int) (t' := .int) (by decide) (by decide)))).other W48 (Or.inr (slot_ne (Or.inl (hw _ (List.mem_of_getElem? (i := 52) rfl))) (Or.inl (hw _ (List.mem_of_getElem? (i := 56) rfl))) (by decide) (t := .int) (t' := .int) (by decide) (by decide)))).other W64 (Or.inr (slot_ne (Or.inl (hw _ (List.mem_of_getElem? (i := 52) rfl))) (Or.inl (hw _ (List.mem_of_getElem? (i := 56) rfl))) (by decide) (t := .int) (t' := .int) (by decide) (by decide))))
              obtain ⟨T123, X123, e123, st123⟩ := getF X77 hx hZ hown (host := "") (Or.inl (hw _ (List.mem_of_getElem? (i := 51) rfl))) Via.refl e77 F122 (g := (mkF m 133 #[.val (.ref a1), .val (.int (0 : Int32)), .val (.int fd)] [(.ref a1), (.ref a1)])) rfl rfl (hb hby d10_133)
              refine own_go st123 ?_
              refine own_go (fun t k => XS.iconst X123.here hx rfl (hb hby d10_136) k) ?_
              refine own_go (fun t k => XS.iadd X123.here hx rfl (hb hby d10_137) rfl k) ?_
              have F124 : Exa Z h64 a1 "com/example/profitmine/profitmine/io/Fields" := (F63.wr W64)
              obtain ⟨T125, h125, X125, e125, W125, st125⟩ := putF X123 hx hZ hown (host := "") (Or.inl (hw _ (List.mem_of_getElem? (i := 51) rfl))) Via.refl e123 F122 F124 (Or.inl (hw _ (List.mem_of_getElem? (i := 52) rfl))) (hw _ (List.mem_of_getElem? (i := 35) rfl)) (ty := .int) (by decide) rfl rfl (g := (mkF m 138 #[.val (.ref a1), .val (.int (0 : Int32)), .val (.int fd)] [(.int (cn + (1 : Int32))), (.ref a1)])) rfl rfl (hb hby d10_138)
              refine own_go st125 ?_
              have G125 : Fld Z h125 a1 "com/example/profitmine/profitmine/io/Fields" "count" "I" (.int (cn + (1 : Int32))) := F122.same W125
              have N125 := Fr.snoc X125 N77 H15
              refine own_go (fun t k => XS.goto X125.here hx rfl (pc0 := 141) (pc' := 166) rfl (hb hby d10_141) (by decide) (by decide) k) ?_
              refine own_go (fun t k => XS.iloadN X125.here hx rfl (hb hby d10_166) rfl  k) ?_
              have F126 : Keep h0 h125 [a1] := ((((F16.wr W45 (Or.inl (List.mem_of_getElem? (i := 0) rfl))).wr W48 (Or.inl (List.mem_of_getElem? (i := 0) rfl))).wr W64 (Or.inl (List.mem_of_getElem? (i := 0) rfl))).wr W125 (Or.inl (List.mem_of_getElem? (i := 0) rfl)))
              have F127 : Fld Z h125 a1 "com/example/profitmine/profitmine/io/Fields" "line" "Ljava/lang/String;" (.ref sx) := (F66.other W125 (Or.inr (slot_ne (Or.inl (hw _ (List.mem_of_getElem? (i := 45) rfl))) (Or.inl (hw _ (List.mem_of_getElem? (i := 52) rfl))) (by decide) (t := (.object "java/lang/String")) (t' := .int) (by decide) (by decide))))
              have F128 : Fld Z h125 a1 "com/example/profitmine/profitmine/io/Fields" "start" "I" (.int (0 : Int32)) := (((G45.other W48 (Or.inr (slot_ne (Or.inl (hw _ (List.mem_of_getElem? (i := 54) rfl))) (Or.inl (hw _ (List.mem_of_getElem? (i := 56) rfl))) (by decide) (t := .int) (t' := .int) (by decide) (by decide)))).other W64 (Or.inr (slot_ne (Or.inl (hw _ (List.mem_of_getElem? (i := 54) rfl))) (Or.inl (hw _ (List.mem_of_getElem? (i := 56) rfl))) (by decide) (t := .int) (t' := .int) (by decide) (by decide)))).other W125 (Or.inr (slot_ne (Or.inl (hw _ (List.mem_of_getElem? (i := 54) rfl))) (Or.inl (hw _ (List.mem_of_getElem? (i := 52) rfl))) (by decide) (t := .int) (t' := .int) (by decide) (by decide))))
              have F129 : Fld Z h125 a1 "com/example/profitmine/profitmine/io/Fields" "end" "I" (.int (1 : Int32)) := (G64.other W125 (Or.inr (slot_ne (Or.inl (hw _ (List.mem_of_getElem? (i := 56) rfl))) (Or.inl (hw _ (List.mem_of_getElem? (i := 52) rfl))) (by decide) (t := .int) (t' := .int) (by decide) (by decide))))
              subst hΦ
              exact own_retN X125 hx (t := .boolean) Bd.returns (by simp) hlk (hb hby d10_167) e125 ⟨⟨_, rfl⟩, N125, F126, F127, ⟨_, _, _, F128, F129, G125, (by decide)⟩⟩ (Nat.le_trans (Nat.add_le_add_right (Nat.add_le_add_right (Nat.add_le_add_right (Nat.add_le_add_right (Nat.add_le_add_right (Nat.add_le_add_right hc15 0) 0) 0) 0) 0) 0) (by decide)) (Nat.le_trans (Nat.add_le_add_right (Nat.add_le_add_right (Nat.add_le_add_right (Nat.add_le_add_right (Nat.add_le_add_right (Nat.add_le_add_right hs15 0) 0) 0) 0) 0) 0) (by decide))
          · refine own_go (fun t k => XS.ifYes X61.here hx rfl (pc0 := 115) (pc' := 131) rfl (hb hby d10_115) rfl ((if0 _ _).trans (feq hc115).2) (by decide) (by decide) k) ?_
            refine own_go (fun t k => XS.aloadN X61.here hx rfl (hb hby d10_131) rfl rfl  k) ?_
            show own_Run p e below Φ (T61.setTop (mkF m 132 #[.val (.ref a1), .val (.int (0 : Int32)), .val (.int fd)] [(.ref a1)]))
            refine own_go (fun t k => XS.dup X61.here hx rfl (hb hby d10_132) rfl rfl k) ?_
            have F130 : Fld Z h48 a1 "com/example/profitmine/profitmine/io/Fields" "count" "I" (.int cn) := ((F21.other W45 (Or.inr (slot_ne (Or.inl (hw _ (List.mem_of_getElem? (i := 52) rfl))) (Or.inl (hw _ (List.mem_of_getElem? (i := 54) rfl))) (by decide) (t := .int) (t' := .int) (by decide) (by decide)))).other W48 (Or.inr (slot_ne (Or.inl (hw _ (List.mem_of_getElem? (i := 52) rfl))) (Or.inl (hw _ (List.mem_of_getElem? (i := 56) rfl))) (by decide) (t := .int) (t' := .int) (by decide) (by decide))))
            obtain ⟨T131, X131, e131, st131⟩ := getF X61 hx hZ hown (host := "") (Or.inl (hw _ (List.mem_of_getElem? (i := 51) rfl))) Via.refl e61 F130 (g := (mkF m 133 #[.val (.ref a1), .val (.int (0 : Int32)), .val (.int fd)] [(.ref a1), (.ref a1)])) rfl rfl (hb hby d10_133)
            refine own_go st131 ?_
            refine own_go (fun t k => XS.iconst X131.here hx rfl (hb hby d10_136) k) ?_
            refine own_go (fun t k => XS.iadd X131.here hx rfl (hb hby d10_137) rfl k) ?_
            have F132 : Exa Z h48 a1 "com/example/profitmine/profitmine/io/Fields" := (F47.wr W48)
            obtain ⟨T133, h133, X133, e133, W133, st133⟩ := putF X131 hx hZ hown (host := "") (Or.inl (hw _ (List.mem_of_getElem? (i := 51) rfl))) Via.refl e131 F130 F132 (Or.inl (hw _ (List.mem_of_getElem? (i := 52) rfl))) (hw _ (List.mem_of_getElem? (i := 35) rfl)) (ty := .int) (by decide) rfl rfl (g := (mkF m 138 #[.val (.ref a1), .val (.int (0 : Int32)), .val (.int fd)] [(.int (cn + (1 : Int32))), (.ref a1)])) rfl rfl (hb hby d10_138)
            refine own_go st133 ?_
            have G133 : Fld Z h133 a1 "com/example/profitmine/profitmine/io/Fields" "count" "I" (.int (cn + (1 : Int32))) := F130.same W133
            have N133 := Fr.snoc X133 N61 H15
            refine own_go (fun t k => XS.goto X133.here hx rfl (pc0 := 141) (pc' := 166) rfl (hb hby d10_141) (by decide) (by decide) k) ?_
            refine own_go (fun t k => XS.iloadN X133.here hx rfl (hb hby d10_166) rfl  k) ?_
            have F134 : Keep h0 h133 [a1] := (((F16.wr W45 (Or.inl (List.mem_of_getElem? (i := 0) rfl))).wr W48 (Or.inl (List.mem_of_getElem? (i := 0) rfl))).wr W133 (Or.inl (List.mem_of_getElem? (i := 0) rfl)))
            have F135 : Fld Z h133 a1 "com/example/profitmine/profitmine/io/Fields" "line" "Ljava/lang/String;" (.ref sx) := (F50.other W133 (Or.inr (slot_ne (Or.inl (hw _ (List.mem_of_getElem? (i := 45) rfl))) (Or.inl (hw _ (List.mem_of_getElem? (i := 52) rfl))) (by decide) (t := (.object "java/lang/String")) (t' := .int) (by decide) (by decide))))
            have F136 : Fld Z h133 a1 "com/example/profitmine/profitmine/io/Fields" "start" "I" (.int (0 : Int32)) := ((G45.other W48 (Or.inr (slot_ne (Or.inl (hw _ (List.mem_of_getElem? (i := 54) rfl))) (Or.inl (hw _ (List.mem_of_getElem? (i := 56) rfl))) (by decide) (t := .int) (t' := .int) (by decide) (by decide)))).other W133 (Or.inr (slot_ne (Or.inl (hw _ (List.mem_of_getElem? (i := 54) rfl))) (Or.inl (hw _ (List.mem_of_getElem? (i := 52) rfl))) (by decide) (t := .int) (t' := .int) (by decide) (by decide))))
            have F137 : Fld Z h133 a1 "com/example/profitmine/profitmine/io/Fields" "end" "I" (.int (0 : Int32)) := (G48.other W133 (Or.inr (slot_ne (Or.inl (hw _ (List.mem_of_getElem? (i := 56) rfl))) (Or.inl (hw _ (List.mem_of_getElem? (i := 52) rfl))) (by decide) (t := .int) (t' := .int) (by decide) (by decide))))
            subst hΦ
            exact own_retN X133 hx (t := .boolean) Bd.returns (by simp) hlk (hb hby d10_167) e133 ⟨⟨_, rfl⟩, N133, F134, F135, ⟨_, _, _, F136, F137, G133, (by decide)⟩⟩ (Nat.le_trans (Nat.add_le_add_right (Nat.add_le_add_right (Nat.add_le_add_right hc15 0) 0) 0) (by decide)) (Nat.le_trans (Nat.add_le_add_right (Nat.add_le_add_right (Nat.add_le_add_right hs15 0) 0) 0) (by decide))
      show own_Run p e below Φ (T2.setTop (mkF m 36 #[.val (.ref a1), .val (.int (0 : Int32)), .unset] []))
      refine own_go (fun t k => XS.iloadN X2.here hx rfl (hb hby d10_36) rfl  k) ?_
      refine own_go (fun t k => XS.aloadN X2.here hx rfl (hb hby d10_37) rfl rfl  k) ?_
      show own_Run p e below Φ (T2.setTop (mkF m 38 #[.val (.ref a1), .val (.int (0 : Int32)), .unset] [(.ref a1), (.int (0 : Int32))]))
      obtain ⟨T138, X138, e138, st138⟩ := getF X2 hx hZ hown (host := "") (Or.inl (hw _ (List.mem_of_getElem? (i := 44) rfl))) Via.refl e2 F5 (g := (mkF m 38 #[.val (.ref a1), .val (.int (0 : Int32)), .unset] [(.ref a1), (.int (0 : Int32))])) rfl rfl (hb hby d10_38)
      refine own_go st138 ?_
      refine own_callV X138 hx hZ (y := (⟨"java/lang/String", "length", "()I"⟩ : MethodName)) (z := (⟨"java/lang/String", "length", "()I"⟩ : MethodName)) (W := 1) (a := sx) (argsL := []) (rest := [(.int (0 : Int32))]) hown (hw _ (List.mem_of_getElem? (i := 62) rfl)) (hw _ (List.mem_of_getElem? (i := 63) rfl)) (notFace_of_selects (args := #[]) (mvT hZ (hw _ (List.mem_of_getElem? (i := 65) rfl)))) (hw _ (List.mem_of_getElem? (i := 65) rfl)) (hw _ (List.mem_of_getElem? (i := 64) rfl)) (by decide) (own_bk (rm_le l Z a0 hw sx g1 tx kx _ _ _ h2 n0 F9 H7 hg5 F10 F11 F12 F13) hZ (hw _ (List.mem_of_getElem? (i := 66) rfl)) (hw _ (List.mem_of_getElem? (i := 7) rfl)) (by decide) (by decide)) e138 F10 (g := (mkF m 41 #[.val (.ref a1), .val (.int (0 : Int32)), .unset] [(.ref sx), (.int (0 : Int32))])) rfl (by rw [hml]; rfl) (lenOf pd_9 rfl) rfl (by show 2 * 0 + _ ≤ _; exact Nat.le_of_eq rfl) (hb hby d10_41) (own_le hc2 (by decide)) (own_le hs2 (by decide)) (fun v139 T139 h139 L139 X139 e139 q139 => ?_)
      obtain ⟨rfl, M139, s139⟩ := q139
      replace e139 : T139.heap = h2 := e139.trans s139
      have N139 := Fr.app N2 M139
      refine own_go (fun t k => XS.icmpNo X139.here hx rfl (hb hby d10_44) rfl (tlt (by decide : (0 : Int32) < (3 : Int32))).2.1 k) ?_
      refine own_go (fun t k => XS.aloadN X139.here hx rfl (hb hby d10_47) rfl rfl  k) ?_
      obtain ⟨T140, X140, e140, st140⟩ := getF X139 hx hZ hown (host := "") (Or.inl (hw _ (List.mem_of_getElem? (i := 51) rfl))) Via.refl e139 F8 (g := (mkF m 48 #[.val (.ref a1), .val (.int (0 : Int32)), .unset] [(.ref a1)])) rfl rfl (hb hby d10_48)
      refine own_go st140 ?_
      by_cases hc51 : (0 : Int32) < cn
      · refine own_go (fun t k => XS.ifYes X140.here hx rfl (pc0 := 51) (pc' := 67) rfl (hb hby d10_51) rfl ((if0 _ _).trans (tlt hc51).2.2.1) (by decide) (by decide) k) ?_
        refine own_go (fun t k => XS.iconst X140.here hx rfl (hb hby d10_67) k) ?_
        refine own_go (fun t k => XS.goto X140.here hx rfl (pc0 := 68) (pc' := 72) rfl (hb hby d10_68) (by decide) (by decide) k) ?_
        exact J72_14 (1 : Int32) T140 h2 _ _ _ X140 e140 N139 (Nat.add_le_add_right hc2 0) (Nat.add_le_add_right hs2 0) F3 F4 F5 F6 F7 F8 F9 F10 F11 F12 F13
      · refine own_go (fun t k => XS.ifNo X140.here hx rfl (hb hby d10_51) rfl ((if0 _ _).trans (flt hc51).2.2.1) k) ?_
        refine own_go (fun t k => XS.aloadN X140.here hx rfl (hb hby d10_54) rfl rfl  k) ?_
        show own_Run p e below Φ (T140.setTop (mkF m 55 #[.val (.ref a1), .val (.int (0 : Int32)), .unset] [(.ref a1)]))
        obtain ⟨T141, X141, e141, st141⟩ := getF X140 hx hZ hown (host := "") (Or.inl (hw _ (List.mem_of_getElem? (i := 44) rfl))) Via.refl e140 F5 (g := (mkF m 55 #[.val (.ref a1), .val (.int (0 : Int32)), .unset] [(.ref a1)])) rfl rfl (hb hby d10_55)
        refine own_go st141 ?_
        refine own_go (fun t k => XS.iloadN X141.here hx rfl (hb hby d10_58) rfl  k) ?_
        refine own_callV X141 hx hZ (y := (⟨"java/lang/String", "charAt", "(I)C"⟩ : MethodName)) (z := (⟨"java/lang/String", "charAt", "(I)C"⟩ : MethodName)) (W := 0) (a := sx) (argsL := [(.int (0 : Int32))]) (rest := []) hown (hw _ (List.mem_of_getElem? (i := 72) rfl)) (hw _ (List.mem_of_getElem? (i := 73) rfl)) (notFace_of_selects (args := #[]) (mvT hZ (hw _ (List.mem_of_getElem? (i := 75) rfl)))) (hw _ (List.mem_of_getElem? (i := 75) rfl)) (hw _ (List.mem_of_getElem? (i := 74) rfl)) (by decide) (own_bk (rm_ch0 l Z a0 hw sx g1 g3 tx kx _ _ _ h2 n0 F9 H7 hg5 H9 hr F10 F11 F12 F13 hy.1) hZ (hw _ (List.mem_of_getElem? (i := 76) rfl)) (hw _ (List.mem_of_getElem? (i := 7) rfl)) (by decide) (by decide)) e141 F10 (g := (mkF m 59 #[.val (.ref a1), .val (.int (0 : Int32)), .unset] [(.int (0 : Int32)), (.ref sx)])) rfl (by rw [hml]; rfl) (lenOf pd_0 rfl) rfl (by show 2 * 0 + _ ≤ _; exact Nat.le_of_eq rfl) (hb hby d10_59) (own_le (Nat.add_le_add_right hc2 0) (by decide)) (own_le (Nat.add_le_add_right hs2 0) (by decide)) (fun v142 T142 h142 L142 X142 e142 q142 => ?_)
        obtain ⟨rfl, M142, s142⟩ := q142
        replace e142 : T142.heap = h2 := e142.trans s142
        have N142 := Fr.app N139 M142
        refine own_go (fun t k => XS.bipush X142.here hx rfl (hb hby d10_62) k) ?_
        by_cases hc64 : y0 = (35 : Int32)
        · refine own_go (fun t k => XS.icmpYes X142.here hx rfl (pc0 := 64) (pc' := 71) rfl (hb hby d10_64) rfl (teq hc64).1 (by decide) (by decide) k) ?_
          refine own_go (fun t k => XS.iconst X142.here hx rfl (hb hby d10_71) k) ?_
          exact J72_14 (0 : Int32) T142 h2 _ _ _ X142 e142 N142 (Nat.add_le_add_right (Nat.add_le_add_right hc2 0) 0) (Nat.add_le_add_right (Nat.add_le_add_right hs2 0) 0) F3 F4 F5 F6 F7 F8 F9 F10 F11 F12 F13
        · refine own_go (fun t k => XS.icmpNo X142.here hx rfl (hb hby d10_64) rfl (feq hc64).1 k) ?_
          refine own_go (fun t k => XS.iconst X142.here hx rfl (hb hby d10_67) k) ?_
          refine own_go (fun t k => XS.goto X142.here hx rfl (pc0 := 68) (pc' := 72) rfl (hb hby d10_68) (by decide) (by decide) k) ?_
          exact J72_14 (1 : Int32) T142 h2 _ _ _ X142 e142 N142 (Nat.add_le_add_right (Nat.add_le_add_right hc2 0) 0) (Nat.add_le_add_right (Nat.add_le_add_right hs2 0) 0) F3 F4 F5 F6 F7 F8 F9 F10 F11 F12 F13
    · skip
      have J72_143 : ∀ (fd : Int32) (T144 : State) (h144 : Heap) (l144 : List Loc) (c144 z144 : Nat), (Stand p l e ({ frames := 4, cells := 0, slots := 0, locals := 53 } : Room) s m #[(.ref a1)] below meth c T144 l144 c144 z144) → (T144.heap = h144) → (Fr n0 l144) → (c144 ≤ 0) → (z144 ≤ 0) → (Keep h0 h144 [a1]) → (Exa Z h144 a1 "com/example/profitmine/profitmine/io/Fields") → (Fld Z h144 a1 "com/example/profitmine/profitmine/io/Fields" "line" "Ljava/lang/String;" (.ref sx)) → (Fld Z h144 a1 "com/example/profitmine/profitmine/io/Fields" "start" "I" (.int sn)) → (Fld Z h144 a1 "com/example/profitmine/profitmine/io/Fields" "end" "I" (.int en)) → (Fld Z h144 a1 "com/example/profitmine/profitmine/io/Fields" "count" "I" (.int cn)) → (Old Z n0 h144) → (Exa Z h144 sx "java/lang/String") → (Fld Z h144 sx "java/lang/String" "value" "[B" (.ref tx)) → (Fld Z h144 sx "java/lang/String" "coder" "B" (.int (0 : Int32))) → (Arv Z h144 tx kx .byte (3 : Int32) [(.int (y0.toInt8.toInt32)), (.int (y1.toInt8.toInt32)), (.int (y2.toInt8.toInt32))] (.int 0)) → own_Run p e below Φ (T144.setTop (mkF m 72 #[.val (.ref a1), .val (.int (1 : Int32)), .unset] [(.int fd)])) := by
        intro fd T144 h144 l144 c144 z144 X144 e144 N144 hc144 hs144 F145 F146 F147 F148 F149 F150 F151 F152 F153 F154 F155
        show own_Run p e below Φ (T144.setTop (mkF m 72 #[.val (.ref a1), .val (.int (1 : Int32)), .unset] [(.int fd)]))
        refine own_go (fun t k => XS.istoreN X144.here hx rfl (hb hby d10_72) rfl (l' := #[.val (.ref a1), .val (.int (1 : Int32)), .val (.int fd)]) rfl k) ?_
        refine own_go (fun t k => XS.iloadN X144.here hx rfl (hb hby d10_73) rfl  k) ?_
        by_cases hc74 : fd = (0 : Int32)
        · refine own_go (fun t k => XS.ifYes X144.here hx rfl (pc0 := 74) (pc' := 144) rfl (hb hby d10_74) rfl ((if0 _ _).trans (teq hc74).1) (by decide) (by decide) k) ?_
          refine own_go (fun t k => XS.aloadN X144.here hx rfl (hb hby d10_144) rfl rfl  k) ?_
          refine own_go (fun t k => XS.aloadN X144.here hx rfl (hb hby d10_145) rfl rfl  k) ?_
          obtain ⟨T156, X156, e156, st156⟩ := getF X144 hx hZ hown (host := "") (Or.inl (hw _ (List.mem_of_getElem? (i := 44) rfl))) Via.refl e144 F147 (g := (mkF m 146 #[.val (.ref a1), .val (.int (1 : Int32)), .val (.int fd)] [(.ref a1), (.ref a1)])) rfl rfl (hb hby d10_146)
          refine own_go st156 ?_
          refine own_callV X156 hx hZ (y := (⟨"java/lang/String", "length", "()I"⟩ : MethodName)) (z := (⟨"java/lang/String", "length", "()I"⟩ : MethodName)) (W := 1) (a := sx) (argsL := []) (rest := [(.ref a1)]) hown (hw _ (List.mem_of_getElem? (i := 62) rfl)) (hw _ (List.mem_of_getElem? (i := 63) rfl)) (notFace_of_selects (args := #[]) (mvT hZ (hw _ (List.mem_of_getElem? (i := 65) rfl)))) (hw _ (List.mem_of_getElem? (i := 65) rfl)) (hw _ (List.mem_of_getElem? (i := 64) rfl)) (by decide) (own_bk (rm_le l Z a0 hw sx g1 tx kx _ _ _ h144 n0 F151 H7 hg5 F152 F153 F154 F155) hZ (hw _ (List.mem_of_getElem? (i := 66) rfl)) (hw _ (List.mem_of_getElem? (i := 7) rfl)) (by decide) (by decide)) e156 F152 (g := (mkF m 149 #[.val (.ref a1), .val (.int (1 : Int32)), .val (.int fd)] [(.ref sx), (.ref a1)])) rfl (by rw [hml]; rfl) (lenOf pd_9 rfl) rfl (by show 2 * 0 + _ ≤ _; exact Nat.le_of_eq rfl) (hb hby d10_149) (own_le hc144 (by decide)) (own_le hs144 (by decide)) (fun v157 T157 h157 L157 X157 e157 q157 => ?_)
          obtain ⟨rfl, M157, s157⟩ := q157
          replace e157 : T157.heap = h144 := e157.trans s157
          have N157 := Fr.app N144 M157
          obtain ⟨T158, h158, X158, e158, W158, st158⟩ := putF X157 hx hZ hown (host := "") (Or.inl (hw _ (List.mem_of_getElem? (i := 53) rfl))) Via.refl e157 F148 F146 (Or.inl (hw _ (List.mem_of_getElem? (i := 54) rfl))) (hw _ (List.mem_of_getElem? (i := 35) rfl)) (ty := .int) (by decide) rfl rfl (g := (mkF m 152 #[.val (.ref a1), .val (.int (1 : Int32)), .val (.int fd)] [(.int (3 : Int32)), (.ref a1)])) rfl rfl (hb hby d10_152)
          refine own_go st158 ?_
          have G158 : Fld Z h158 a1 "com/example/profitmine/profitmine/io/Fields" "start" "I" (.int (3 : Int32)) := F148.same W158
          have N158 := Fr.snoc X158 N157 H15
          refine own_go (fun t k => XS.aloadN X158.here hx rfl (hb hby d10_155) rfl rfl  k) ?_
          show own_Run p e below Φ (T158.setTop (mkF m 156 #[.val (.ref a1), .val (.int (1 : Int32)), .val (.int fd)] [(.ref a1)]))
          refine own_go (fun t k => XS.aloadN X158.here hx rfl (hb hby d10_156) rfl rfl  k) ?_
          have F159 : Fld Z h158 a1 "com/example/profitmine/profitmine/io/Fields" "line" "Ljava/lang/String;" (.ref sx) := (F147.other W158 (Or.inr (slot_ne (Or.inl (hw _ (List.mem_of_getElem? (i := 45) rfl))) (Or.inl (hw _ (List.mem_of_getElem? (i := 54) rfl))) (by decide) (t := (.object "java/lang/String")) (t' := .int) (by decide) (by decide))))
          obtain ⟨T160, X160, e160, st160⟩ := getF X158 hx hZ hown (host := "") (Or.inl (hw _ (List.mem_of_getElem? (i := 44) rfl))) Via.refl e158 F159 (g := (mkF m 157 #[.val (.ref a1), .val (.int (1 : Int32)), .val (.int fd)] [(.ref a1), (.ref a1)])) rfl rfl (hb hby d10_157)
          refine own_go st160 ?_
          have F161 : Old Z n0 h158 := (F151.wr W158 H15)
          have F162 : Exa Z h158 sx "java/lang/String" := (F152.wr W158)
          have F163 : Fld Z h158 sx "java/lang/String" "value" "[B" (.ref tx) := (F153.other W158 (Or.inl H16))
          have F164 : Fld Z h158 sx "java/lang/String" "coder" "B" (.int (0 : Int32)) := (F154.other W158 (Or.inl H16))
          have F165 : Arv Z h158 tx kx .byte (3 : Int32) [(.int (y0.toInt8.toInt32)), (.int (y1.toInt8.toInt32)), (.int (y2.toInt8.toInt32))] (.int 0) := (F155.other W158 H17)
          refine own_callV X160 hx hZ (y := (⟨"java/lang/String", "length", "()I"⟩ : MethodName)) (z := (⟨"java/lang/String", "length", "()I"⟩ : MethodName)) (W := 1) (a := sx) (argsL := []) (rest := [(.ref a1)]) hown (hw _ (List.mem_of_getElem? (i := 62) rfl)) (hw _ (List.mem_of_getElem? (i := 63) rfl)) (notFace_of_selects (args := #[]) (mvT hZ (hw _ (List.mem_of_getElem? (i := 65) rfl)))) (hw _ (List.mem_of_getElem? (i := 65) rfl)) (hw _ (List.mem_of_getElem? (i := 64) rfl)) (by decide) (own_bk (rm_le l Z a0 hw sx g1 tx kx _ _ _ h158 n0 F161 H7 hg5 F162 F163 F164 F165) hZ (hw _ (List.mem_of_getElem? (i := 66) rfl)) (hw _ (List.mem_of_getElem? (i := 7) rfl)) (by decide) (by decide)) e160 F162 (g := (mkF m 160 #[.val (.ref a1), .val (.int (1 : Int32)), .val (.int fd)] [(.ref sx), (.ref a1)])) rfl (by rw [hml]; rfl) (lenOf pd_9 rfl) rfl (by show 2 * 0 + _ ≤ _; exact Nat.le_of_eq rfl) (hb hby d10_160) (own_le (Nat.add_le_add_right hc144 0) (by decide)) (own_le (Nat.add_le_add_right hs144 0) (by decide)) (fun v166 T166 h166 L166 X166 e166 q166 => ?_)
          obtain ⟨rfl, M166, s166⟩ := q166
          replace e166 : T166.heap = h158 := e166.trans s166
          have N166 := Fr.app N158 M166
          have F167 : Fld Z h158 a1 "com/example/profitmine/profitmine/io/Fields" "end" "I" (.int en) := (F149.other W158 (Or.inr (slot_ne (Or.inl (hw _ (List.mem_of_getElem? (i := 56) rfl))) (Or.inl (hw _ (List.mem_of_getElem? (i := 54) rfl))) (by decide) (t := .int) (t' := .int) (by decide) (by decide))))
          have F168 : Exa Z h158 a1 "com/example/profitmine/profitmine/io/Fields" := (F146.wr W158)
          obtain ⟨T169, h169, X169, e169, W169, st169⟩ := putF X166 hx hZ hown (host := "") (Or.inl (hw _ (List.mem_of_getElem? (i := 55) rfl))) Via.refl e166 F167 F168 (Or.inl (hw _ (List.mem_of_getElem? (i := 56) rfl))) (hw _ (List.mem_of_getElem? (i := 35) rfl)) (ty := .int) (by decide) rfl rfl (g := (mkF m 163 #[.val (.ref a1), .val (.int (1 : Int32)), .val (.int fd)] [(.int (3 : Int32)), (.ref a1)])) rfl rfl (hb hby d10_163)
          refine own_go st169 ?_
          have G169 : Fld Z h169 a1 "com/example/profitmine/profitmine/io/Fields" "end" "I" (.int (3 : Int32)) := F167.same W169
          have N169 := Fr.snoc X169 N166 H15
          refine own_go (fun t k => XS.iloadN X169.here hx rfl (hb hby d10_166) rfl  k) ?_
          have F170 : Keep h0 h169 [a1] := ((F145.wr W158 (Or.inl (List.mem_of_getElem? (i := 0) rfl))).wr W169 (Or.inl (List.mem_of_getElem? (i := 0) rfl)))
          have F171 : Fld Z h169 a1 "com/example/profitmine/profitmine/io/Fields" "line" "Ljava/lang/String;" (.ref sx) := (F159.other W169 (Or.inr (slot_ne (Or.inl (hw _ (List.mem_of_getElem? (i := 45) rfl))) (Or.inl (hw _ (List.mem_of_getElem? (i := 56) rfl))) (by decide) (t := (.object "java/lang/String")) (t' := .int) (by decide) (by decide))))
          have F172 : Fld Z h169 a1 "com/example/profitmine/profitmine/io/Fields" "start" "I" (.int (3 : Int32)) := (G158.other W169 (Or.inr (slot_ne (Or.inl (hw _ (List.mem_of_getElem? (i := 54) rfl))) (Or.inl (hw _ (List.mem_of_getElem? (i := 56) rfl))) (by decide) (t := .int) (t' := .int) (by decide) (by decide))))
          have F173 : Fld Z h169 a1 "com/example/profitmine/profitmine/io/Fields" "count" "I" (.int cn) := ((F150.other W158 (Or.inr (slot_ne (Or.inl (hw _ (List.mem_of_getElem? (i := 52) rfl))) (Or.inl (hw _ (List.mem_of_getElem? (i := 54) rfl))) (by decide) (t := .int) (t' := .int) (by decide) (by decide)))).other W169 (Or.inr (slot_ne (Or.inl (hw _ (List.mem_of_getElem? (i := 52) rfl))) (Or.inl (hw _ (List.mem_of_getElem? (i := 56) rfl))) (by decide) (t := .int) (t' := .int) (by decide) (by decide))))
          subst hΦ
          exact own_retN X169 hx (t := .boolean) Bd.returns (by simp) hlk (hb hby d10_167) e169 ⟨⟨_, rfl⟩, N169, F170, F171, ⟨_, _, _, F172, G169, F173, (by decide)⟩⟩ (Nat.le_trans (Nat.add_le_add_right (Nat.add_le_add_right hc144 0) 0) (by decide)) (Nat.le_trans (Nat.add_le_add_right (Nat.add_le_add_right hs144 0) 0) (by decide))
        · refine own_go (fun t k => XS.ifNo X144.here hx rfl (hb hby d10_74) rfl ((if0 _ _).trans (feq hc74).1) k) ?_
          refine own_go (fun t k => XS.aloadN X144.here hx rfl (hb hby d10_77) rfl rfl  k) ?_
          refine own_go (fun t k => XS.iloadN X144.here hx rfl (hb hby d10_78) rfl  k) ?_
          obtain ⟨T174, h174, X174, e174, W174, st174⟩ := putF X144 hx hZ hown (host := "") (Or.inl (hw _ (List.mem_of_getElem? (i := 53) rfl))) Via.refl e144 F148 F146 (Or.inl (hw _ (List.mem_of_getElem? (i := 54) rfl))) (hw _ (List.mem_of_getElem? (i := 35) rfl)) (ty := .int) (by decide) rfl rfl (g := (mkF m 79 #[.val (.ref a1), .val (.int (1 : Int32)), .val (.int fd)] [(.int (1 : Int32)), (.ref a1)])) rfl rfl (hb hby d10_79)
          refine own_go st174 ?_
          have G174 : Fld Z h174 a1 "com/example/profitmine/profitmine/io/Fields" "start" "I" (.int (1 : Int32)) := F148.same W174
          have N174 := Fr.snoc X174 N144 H15
          show own_Run p e below Φ (T174.setTop (mkF m 82 #[.val (.ref a1), .val (.int (1 : Int32)), .val (.int fd)] []))
          refine own_go (fun t k => XS.aloadN X174.here hx rfl (hb hby d10_82) rfl rfl  k) ?_
          refine own_go (fun t k => XS.iloadN X174.here hx rfl (hb hby d10_83) rfl  k) ?_
          have F175 : Fld Z h174 a1 "com/example/profitmine/profitmine/io/Fields" "end" "I" (.int en) := (F149.other W174 (Or.inr (slot_ne (Or.inl (hw _ (List.mem_of_getElem? (i := 56) rfl))) (Or.inl (hw _ (List.mem_of_getElem? (i := 54) rfl))) (by decide) (t := .int) (t' := .int) (by decide) (by decide))))
          have F176 : Exa Z h174 a1 "com/example/profitmine/profitmine/io/Fields" := (F146.wr W174)
          obtain ⟨T177, h177, X177, e177, W177, st177⟩ := putF X174 hx hZ hown (host := "") (Or.inl (hw _ (List.mem_of_getElem? (i := 55) rfl))) Via.refl e174 F175 F176 (Or.inl (hw _ (List.mem_of_getElem? (i := 56) rfl))) (hw _ (List.mem_of_getElem? (i := 35) rfl)) (ty := .int) (by decide) rfl rfl (g := (mkF m 84 #[.val (.ref a1), .val (.int (1 : Int32)), .val (.int fd)] [(.int (1 : Int32)), (.ref a1)])) rfl rfl (hb hby d10_84)
          refine own_go st177 ?_
          have G177 : Fld Z h177 a1 "com/example/profitmine/profitmine/io/Fields" "end" "I" (.int (1 : Int32)) := F175.same W177
          have N177 := Fr.snoc X177 N174 H15
          refine own_go (fun t k => XS.aloadN X177.here hx rfl (hb hby d10_87) rfl rfl  k) ?_
          obtain ⟨T178, X178, e178, st178⟩ := getF X177 hx hZ hown (host := "") (Or.inl (hw _ (List.mem_of_getElem? (i := 55) rfl))) Via.refl e177 G177 (g := (mkF m 88 #[.val (.ref a1), .val (.int (1 : Int32)), .val (.int fd)] [(.ref a1)])) rfl rfl (hb hby d10_88)
          refine own_go st178 ?_
          refine own_go (fun t k => XS.aloadN X178.here hx rfl (hb hby d10_91) rfl rfl  k) ?_
          have F179 : Fld Z h177 a1 "com/example/profitmine/profitmine/io/Fields" "line" "Ljava/lang/String;" (.ref sx) := ((F147.other W174 (Or.inr (slot_ne (Or.inl (hw _ (List.mem_of_getElem? (i := 45) rfl))) (Or.inl (hw _ (List.mem_of_getElem? (i := 54) rfl))) (by decide) (t := (.object "java/lang/String")) (t' := .int) (by decide) (by decide)))).other W177 (Or.inr (slot_ne (Or.inl (hw _ (List.mem_of_getElem? (i := 45) rfl))) (Or.inl (hw _ (List.mem_of_getElem? (i := 56) rfl))) (by decide) (t := (.object "java/lang/String")) (t' := .int) (by decide) (by decide))))
          obtain ⟨T180, X180, e180, st180⟩ := getF X178 hx hZ hown (host := "") (Or.inl (hw _ (List.mem_of_getElem? (i := 44) rfl))) Via.refl e178 F179 (g := (mkF m 92 #[.val (.ref a1), .val (.int (1 : Int32)), .val (.int fd)] [(.ref a1), (.int (1 : Int32))])) rfl rfl (hb hby d10_92)
          refine own_go st180 ?_
          have F181 : Old Z n0 h177 := ((F151.wr W174 H15).wr W177 H15)
          have F182 : Exa Z h177 sx "java/lang/String" := ((F152.wr W174).wr W177)
          have F183 : Fld Z h177 sx "java/lang/String" "value" "[B" (.ref tx) := ((F153.other W174 (Or.inl H16)).other W177 (Or.inl H16))
          have F184 : Fld Z h177 sx "java/lang/String" "coder" "B" (.int (0 : Int32)) := ((F154.other W174 (Or.inl H16)).other W177 (Or.inl H16))
          have F185 : Arv Z h177 tx kx .byte (3 : Int32) [(.int (y0.toInt8.toInt32)), (.int (y1.toInt8.toInt32)), (.int (y2.toInt8.toInt32))] (.int 0) := ((F155.other W174 H17).other W177 H17)
          refine own_callV X180 hx hZ (y := (⟨"java/lang/String", "length", "()I"⟩ : MethodName)) (z := (⟨"java/lang/String", "length", "()I"⟩ : MethodName)) (W := 1) (a := sx) (argsL := []) (rest := [(.int (1 : Int32))]) hown (hw _ (List.mem_of_getElem? (i := 62) rfl)) (hw _ (List.mem_of_getElem? (i := 63) rfl)) (notFace_of_selects (args := #[]) (mvT hZ (hw _ (List.mem_of_getElem? (i := 65) rfl)))) (hw _ (List.mem_of_getElem? (i := 65) rfl)) (hw _ (List.mem_of_getElem? (i := 64) rfl)) (by decide) (own_bk (rm_le l Z a0 hw sx g1 tx kx _ _ _ h177 n0 F181 H7 hg5 F182 F183 F184 F185) hZ (hw _ (List.mem_of_getElem? (i := 66) rfl)) (hw _ (List.mem_of_getElem? (i := 7) rfl)) (by decide) (by decide)) e180 F182 (g := (mkF m 95 #[.val (.ref a1), .val (.int (1 : Int32)), .val (.int fd)] [(.ref sx), (.int (1 : Int32))])) rfl (by rw [hml]; rfl) (lenOf pd_9 rfl) rfl (by show 2 * 0 + _ ≤ _; exact Nat.le_of_eq rfl) (hb hby d10_95) (own_le hc144 (by decide)) (own_le hs144 (by decide)) (fun v186 T186 h186 L186 X186 e186 q186 => ?_)
          obtain ⟨rfl, M186, s186⟩ := q186
          replace e186 : T186.heap = h177 := e186.trans s186
          have N186 := Fr.app N177 M186
          refine own_go (fun t k => XS.icmpNo X186.here hx rfl (hb hby d10_98) rfl (tlt (by decide : (1 : Int32) < (3 : Int32))).2.1 k) ?_
          show own_Run p e below Φ (T186.setTop (mkF m 101 #[.val (.ref a1), .val (.int (1 : Int32)), .val (.int fd)] []))
          refine own_go (fun t k => XS.aloadN X186.here hx rfl (hb hby d10_101) rfl rfl  k) ?_
          obtain ⟨T187, X187, e187, st187⟩ := getF X186 hx hZ hown (host := "") (Or.inl (hw _ (List.mem_of_getElem? (i := 44) rfl))) Via.refl e186 F179 (g := (mkF m 102 #[.val (.ref a1), .val (.int (1 : Int32)), .val (.int fd)] [(.ref a1)])) rfl rfl (hb hby d10_102)
          refine own_go st187 ?_
          refine own_go (fun t k => XS.aloadN X187.here hx rfl (hb hby d10_105) rfl rfl  k) ?_
          obtain ⟨T188, X188, e188, st188⟩ := getF X187 hx hZ hown (host := "") (Or.inl (hw _ (List.mem_of_getElem? (i := 55) rfl))) Via.refl e187 G177 (g := (mkF m 106 #[.val (.ref a1), .val (.int (1 : Int32)), .val (.int fd)] [(.ref a1), (.ref sx)])) rfl rfl (hb hby d10_106)
          refine own_go st188 ?_
          refine own_callV X188 hx hZ (y := (⟨"java/lang/String", "charAt", "(I)C"⟩ : MethodName)) (z := (⟨"java/lang/String", "charAt", "(I)C"⟩ : MethodName)) (W := 0) (a := sx) (argsL := [(.int (1 : Int32))]) (rest := []) hown (hw _ (List.mem_of_getElem? (i := 72) rfl)) (hw _ (List.mem_of_getElem? (i := 73) rfl)) (notFace_of_selects (args := #[]) (mvT hZ (hw _ (List.mem_of_getElem? (i := 75) rfl)))) (hw _ (List.mem_of_getElem? (i := 75) rfl)) (hw _ (List.mem_of_getElem? (i := 74) rfl)) (by decide) (own_bk (rm_ch1 l Z a0 hw sx g1 g3 tx kx _ _ _ h177 n0 F181 H7 hg5 H9 hr F182 F183 F184 F185 hy.2.1) hZ (hw _ (List.mem_of_getElem? (i := 76) rfl)) (hw _ (List.mem_of_getElem? (i := 7) rfl)) (by decide) (by decide)) e188 F182 (g := (mkF m 109 #[.val (.ref a1), .val (.int (1 : Int32)), .val (.int fd)] [(.int (1 : Int32)), (.ref sx)])) rfl (by rw [hml]; rfl) (lenOf pd_0 rfl) rfl (by show 2 * 0 + _ ≤ _; exact Nat.le_of_eq rfl) (hb hby d10_109) (own_le (Nat.add_le_add_right hc144 0) (by decide)) (own_le (Nat.add_le_add_right hs144 0) (by decide)) (fun v189 T189 h189 L189 X189 e189 q189 => ?_)
          obtain ⟨rfl, M189, s189⟩ := q189
          replace e189 : T189.heap = h177 := e189.trans s189
          have N189 := Fr.app N186 M189
          refine own_callS X189 hx hZ (y := (⟨"com/example/profitmine/profitmine/io/Fields", "isBlank", "(C)Z"⟩ : MethodName)) (W := 0) (argsL := [(.int y1)]) (rest := []) hown (hw _ (List.mem_of_getElem? (i := 94) rfl)) (hw _ (List.mem_of_getElem? (i := 95) rfl)) (hw _ (List.mem_of_getElem? (i := 36) rfl)) (hw _ (List.mem_of_getElem? (i := 96) rfl)) (by decide) (own_bk (rm_ib l Z a0 hw y1 h177 n0 ) hZ (hw _ (List.mem_of_getElem? (i := 96) rfl)) (hw _ (List.mem_of_getElem? (i := 36) rfl)) (by decide) (by decide)) e189 (g := (mkF m 112 #[.val (.ref a1), .val (.int (1 : Int32)), .val (.int fd)] [(.int y1)])) rfl (by rw [hml]; rfl) (lenOf pd_14 rfl) rfl (by show 2 * 0 + _ ≤ _; exact Nat.le_of_eq rfl) (hb hby d10_112) (own_le (Nat.add_le_add_right (Nat.add_le_add_right hc144 0) 0) (by decide)) (own_le (Nat.add_le_add_right (Nat.add_le_add_right hs144 0) 0) (by decide)) (fun v190 T190 h190 L190 X190 e190 q190 => ?_)
          obtain ⟨rfl, M190, s190⟩ := q190
          replace e190 : T190.heap = h177 := e190.trans s190
          have N190 := Fr.app N189 M190
          by_cases hc115 : (own_blk y1) = (0 : Int32)
          · refine own_go (fun t k => XS.ifNo X190.here hx rfl (hb hby d10_115) rfl ((if0 _ _).trans (teq hc115).2) k) ?_
            refine own_go (fun t k => XS.aloadN X190.here hx rfl (hb hby d10_118) rfl rfl  k) ?_
            refine own_go (fun t k => XS.dup X190.here hx rfl (hb hby d10_119) rfl rfl k) ?_
            show own_Run p e below Φ (T190.setTop (mkF m 120 #[.val (.ref a1), .val (.int (1 : Int32)), .val (.int fd)] [(.ref a1), (.ref a1)]))
            obtain ⟨T191, X191, e191, st191⟩ := getF X190 hx hZ hown (host := "") (Or.inl (hw _ (List.mem_of_getElem? (i := 55) rfl))) Via.refl e190 G177 (g := (mkF m 120 #[.val (.ref a1), .val (.int (1 : Int32)), .val (.int fd)] [(.ref a1), (.ref a1)])) rfl rfl (hb hby d10_120)
            refine own_go st191 ?_
            refine own_go (fun t k => XS.iconst X191.here hx rfl (hb hby d10_123) k) ?_
            refine own_go (fun t k => XS.iadd X191.here hx rfl (hb hby d10_124) rfl k) ?_
            show own_Run p e below Φ (T191.setTop (mkF m 125 #[.val (.ref a1), .val (.int (1 : Int32)), .val (.int fd)] [(.int ((1 : Int32) + (1 : Int32))), (.ref a1)]))
            rw [show ((1 : Int32) + (1 : Int32)) = (2 : Int32) from by decide]
            show own_Run p e below Φ (T191.setTop (mkF m 125 #[.val (.ref a1), .val (.int (1 : Int32)), .val (.int fd)] [(.int (2 : Int32)), (.ref a1)]))
            have F192 : Exa Z h177 a1 "com/example/profitmine/profitmine/io/Fields" := (F176.wr W177)
            obtain ⟨T193, h193, X193, e193, W193, st193⟩ := putF X191 hx hZ hown (host := "") (Or.inl (hw _ (List.mem_of_getElem? (i := 55) rfl))) Via.refl e191 G177 F192 (Or.inl (hw _ (List.mem_of_getElem? (i := 56) rfl))) (hw _ (List.mem_of_getElem? (i := 35) rfl)) (ty := .int) (by decide) rfl rfl (g := (mkF m 125 #[.val (.ref a1), .val (.int (1 : Int32)), .val (.int fd)] [(.int (2 : Int32)), (.ref a1)])) rfl rfl (hb hby d10_125)
            refine own_go st193 ?_
            have G193 : Fld Z h193 a1 "com/example/profitmine/profitmine/io/Fields" "end" "I" (.int (2 : Int32)) := G177.same W193
            have N193 := Fr.snoc X193 N190 H15
            refine own_go (fun t k => XS.goto X193.here hx rfl (pc0 := 128) (pc' := 87) rfl (hb hby d10_128) (by decide) (by decide) k) ?_
            refine own_go (fun t k => XS.aloadN X193.here hx rfl (hb hby d10_87) rfl rfl  k) ?_
            obtain ⟨T194, X194, e194, st194⟩ := getF X193 hx hZ hown (host := "") (Or.inl (hw _ (List.mem_of_getElem? (i := 55) rfl))) Via.refl e193 G193 (g := (mkF m 88 #[.val (.ref a1), .val (.int (1 : Int32)), .val (.int fd)] [(.ref a1)])) rfl rfl (hb hby d10_88)
            refine own_go st194 ?_
            refine own_go (fun t k => XS.aloadN X194.here hx rfl (hb hby d10_91) rfl rfl  k) ?_
            have F195 : Fld Z h193 a1 "com/example/profitmine/profitmine/io/Fields" "line" "Ljava/lang/String;" (.ref sx) := (F179.other W193 (Or.inr (slot_ne (Or.inl (hw _ (List.mem_of_getElem? (i := 45) rfl))) (Or.inl (hw _ (List.mem_of_getElem? (i := 56) rfl))) (by decide) (t := (.object "java/lang/String")) (t' := .int) (by decide) (by decide))))
            obtain ⟨T196, X196, e196, st196⟩ := getF X194 hx hZ hown (host := "") (Or.inl (hw _ (List.mem_of_getElem? (i := 44) rfl))) Via.refl e194 F195 (g := (mkF m 92 #[.val (.ref a1), .val (.int (1 : Int32)), .val (.int fd)] [(.ref a1), (.int (2 : Int32))])) rfl rfl (hb hby d10_92)
            refine own_go st196 ?_
            have F197 : Old Z n0 h193 := (F181.wr W193 H15)
            have F198 : Exa Z h193 sx "java/lang/String" := (F182.wr W193)
            have F199 : Fld Z h193 sx "java/lang/String" "value" "[B" (.ref tx) := (F183.other W193 (Or.inl H16))
            have F200 : Fld Z h193 sx "java/lang/String" "coder" "B" (.int (0 : Int32)) := (F184.other W193 (Or.inl H16))
            have F201 : Arv Z h193 tx kx .byte (3 : Int32) [(.int (y0.toInt8.toInt32)), (.int (y1.toInt8.toInt32)), (.int (y2.toInt8.toInt32))] (.int 0) := (F185.other W193 H17)
            refine own_callV X196 hx hZ (y := (⟨"java/lang/String", "length", "()I"⟩ : MethodName)) (z := (⟨"java/lang/String", "length", "()I"⟩ : MethodName)) (W := 1) (a := sx) (argsL := []) (rest := [(.int (2 : Int32))]) hown (hw _ (List.mem_of_getElem? (i := 62) rfl)) (hw _ (List.mem_of_getElem? (i := 63) rfl)) (notFace_of_selects (args := #[]) (mvT hZ (hw _ (List.mem_of_getElem? (i := 65) rfl)))) (hw _ (List.mem_of_getElem? (i := 65) rfl)) (hw _ (List.mem_of_getElem? (i := 64) rfl)) (by decide) (own_bk (rm_le l Z a0 hw sx g1 tx kx _ _ _ h193 n0 F197 H7 hg5 F198 F199 F200 F201) hZ (hw _ (List.mem_of_getElem? (i := 66) rfl)) (hw _ (List.mem_of_getElem? (i := 7) rfl)) (by decide) (by decide)) e196 F198 (g := (mkF m 95 #[.val (.ref a1), .val (.int (1 : Int32)), .val (.int fd)] [(.ref sx), (.int (2 : Int32))])) rfl (by rw [hml]; rfl) (lenOf pd_9 rfl) rfl (by show 2 * 0 + _ ≤ _; exact Nat.le_of_eq rfl) (hb hby d10_95) (own_le (Nat.add_le_add_right (Nat.add_le_add_right (Nat.add_le_add_right hc144 0) 0) 0) (by decide)) (own_le (Nat.add_le_add_right (Nat.add_le_add_right (Nat.add_le_add_right hs144 0) 0) 0) (by decide)) (fun v202 T202 h202 L202 X202 e202 q202 => ?_)
            obtain ⟨rfl, M202, s202⟩ := q202
            replace e202 : T202.heap = h193 := e202.trans s202
            have N202 := Fr.app N193 M202
            refine own_go (fun t k => XS.icmpNo X202.here hx rfl (hb hby d10_98) rfl (tlt (by decide : (2 : Int32) < (3 : Int32))).2.1 k) ?_
            refine own_go (fun t k => XS.aloadN X202.here hx rfl (hb hby d10_101) rfl rfl  k) ?_
            show own_Run p e below Φ (T202.setTop (mkF m 102 #[.val (.ref a1), .val (.int (1 : Int32)), .val (.int fd)] [(.ref a1)]))
            obtain ⟨T203, X203, e203, st203⟩ := getF X202 hx hZ hown (host := "") (Or.inl (hw _ (List.mem_of_getElem? (i := 44) rfl))) Via.refl e202 F195 (g := (mkF m 102 #[.val (.ref a1), .val (.int (1 : Int32)), .val (.int fd)] [(.ref a1)])) rfl rfl (hb hby d10_102)
            refine own_go st203 ?_
            refine own_go (fun t k => XS.aloadN X203.here hx rfl (hb hby d10_105) rfl rfl  k) ?_
            obtain ⟨T204, X204, e204, st204⟩ := getF X203 hx hZ hown (host := "") (Or.inl (hw _ (List.mem_of_getElem? (i := 55) rfl))) Via.refl e203 G193 (g := (mkF m 106 #[.val (.ref a1), .val (.int (1 : Int32)), .val (.int fd)] [(.ref a1), (.ref sx)])) rfl rfl (hb hby d10_106)
            refine own_go st204 ?_
            refine own_callV X204 hx hZ (y := (⟨"java/lang/String", "charAt", "(I)C"⟩ : MethodName)) (z := (⟨"java/lang/String", "charAt", "(I)C"⟩ : MethodName)) (W := 0) (a := sx) (argsL := [(.int (2 : Int32))]) (rest := []) hown (hw _ (List.mem_of_getElem? (i := 72) rfl)) (hw _ (List.mem_of_getElem? (i := 73) rfl)) (notFace_of_selects (args := #[]) (mvT hZ (hw _ (List.mem_of_getElem? (i := 75) rfl)))) (hw _ (List.mem_of_getElem? (i := 75) rfl)) (hw _ (List.mem_of_getElem? (i := 74) rfl)) (by decide) (own_bk (rm_ch2 l Z a0 hw sx g1 g3 tx kx _ _ _ h193 n0 F197 H7 hg5 H9 hr F198 F199 F200 F201 hy.2.2) hZ (hw _ (List.mem_of_getElem? (i := 76) rfl)) (hw _ (List.mem_of_getElem? (i := 7) rfl)) (by decide) (by decide)) e204 F198 (g := (mkF m 109 #[.val (.ref a1), .val (.int (1 : Int32)), .val (.int fd)] [(.int (2 : Int32)), (.ref sx)])) rfl (by rw [hml]; rfl) (lenOf pd_0 rfl) rfl (by show 2 * 0 + _ ≤ _; exact Nat.le_of_eq rfl) (hb hby d10_109) (own_le (Nat.add_le_add_right (Nat.add_le_add_right (Nat.add_le_add_right (Nat.add_le_add_right hc144 0) 0) 0) 0) (by decide)) (own_le (Nat.add_le_add_right (Nat.add_le_add_right (Nat.add_le_add_right (Nat.add_le_add_right hs144 0) 0) 0) 0) (by decide)) (fun v205 T205 h205 L205 X205 e205 q205 => ?_)
            obtain ⟨rfl, M205, s205⟩ := q205
            replace e205 : T205.heap = h193 := e205.trans s205
            have N205 := Fr.app N202 M205
            refine own_callS X205 hx hZ (y := (⟨"com/example/profitmine/profitmine/io/Fields", "isBlank", "(C)Z"⟩ : MethodName)) (W := 0) (argsL := [(.int y2)]) (rest := []) hown (hw _ (List.mem_of_getElem? (i := 94) rfl)) (hw _ (List.mem_of_getElem? (i := 95) rfl)) (hw _ (List.mem_of_getElem? (i := 36) rfl)) (hw _ (List.mem_of_getElem? (i := 96) rfl)) (by decide) (own_bk (rm_ib l Z a0 hw y2 h193 n0 ) hZ (hw _ (List.mem_of_getElem? (i := 96) rfl)) (hw _ (List.mem_of_getElem? (i := 36) rfl)) (by decide) (by decide)) e205 (g := (mkF m 112 #[.val (.ref a1), .val (.int (1 : Int32)), .val (.int fd)] [(.int y2)])) rfl (by rw [hml]; rfl) (lenOf pd_14 rfl) rfl (by show 2 * 0 + _ ≤ _; exact Nat.le_of_eq rfl) (hb hby d10_112) (own_le (Nat.add_le_add_right (Nat.add_le_add_right (Nat.add_le_add_right (Nat.add_le_add_right (Nat.add_le_add_right hc144 0) 0) 0) 0) 0) (by decide)) (own_le (Nat.add_le_add_right (Nat.add_le_add_right (Nat.add_le_add_right (Nat.add_le_add_right (Nat.add_le_add_right hs144 0) 0) 0) 0) 0) (by decide)) (fun v206 T206 h206 L206 X206 e206 q206 => ?_)
            obtain ⟨rfl, M206, s206⟩ := q206
            replace e206 : T206.heap = h193 := e206.trans s206
            have N206 := Fr.app N205 M206
            by_cases hc115_2 : (own_blk y2) = (0 : Int32)
            · refine own_go (fun t k => XS.ifNo X206.here hx rfl (hb hby d10_115) rfl ((if0 _ _).trans (teq hc115_2).2) k) ?_
              refine own_go (fun t k => XS.aloadN X206.here hx rfl (hb hby d10_118) rfl rfl  k) ?_
              refine own_go (fun t k => XS.dup X206.here hx rfl (hb hby d10_119) rfl rfl k) ?_
              obtain ⟨T207, X207, e207, st207⟩ := getF X206 hx hZ hown (host := "") (Or.inl (hw _ (List.mem_of_getElem? (i := 55) rfl))) Via.refl e206 G193 (g := (mkF m 120 #[.val (.ref a1), .val (.int (1 : Int32)), .val (.int fd)] [(.ref a1), (.ref a1)])) rfl rfl (hb hby d10_120)
              refine own_go st207 ?_
              show own_Run p e below Φ (T207.setTop (mkF m 123 #[.val (.ref a1), .val (.int (1 : Int32)), .val (.int fd)] [(.int (2 : Int32)), (.ref a1)]))
              refine own_go (fun t k => XS.iconst X207.here hx rfl (hb hby d10_123) k) ?_
              refine own_go (fun t k => XS.iadd X207.here hx rfl (hb hby d10_124) rfl k) ?_
              show own_Run p e below Φ (T207.setTop (mkF m 125 #[.val (.ref a1), .val (.int (1 : Int32)), .val (.int fd)] [(.int ((2 : Int32) + (1 : Int32))), (.ref a1)]))
              rw [show ((2 : Int32) + (1 : Int32)) = (3 : Int32) from by decide]
              show own_Run p e below Φ (T207.setTop (mkF m 125 #[.val (.ref a1), .val (.int (1 : Int32)), .val (.int fd)] [(.int (3 : Int32)), (.ref a1)]))
              have F208 : Exa Z h193 a1 "com/example/profitmine/profitmine/io/Fields" := (F192.wr W193)
              obtain ⟨T209, h209, X209, e209, W209, st209⟩ := putF X207 hx hZ hown (host := "") (Or.inl (hw _ (List.mem_of_getElem? (i := 55) rfl))) Via.refl e207 G193 F208 (Or.inl (hw _ (List.mem_of_getElem? (i := 56) rfl))) (hw _ (List.mem_of_getElem? (i := 35) rfl)) (ty := .int) (by decide) rfl rfl (g := (mkF m 125 #[.val (.ref a1), .val (.int (1 : Int32)), .val (.int fd)] [(.int (3 : Int32)), (.ref a1)])) rfl rfl (hb hby d10_125)
              refine own_go st209 ?_
              have G209 : Fld Z h209 a1 "com/example/profitmine/profitmine/io/Fields" "end" "I" (.int (3 : Int32)) := G193.same W209
              have N209 := Fr.snoc X209 N206 H15
              refine own_go (fun t k => XS.goto X209.here hx rfl (pc0 := 128) (pc' := 87) rfl (hb hby d10_128) (by decide) (by decide) k) ?_
              refine own_go (fun t k => XS.aloadN X209.here hx rfl (hb hby d10_87) rfl rfl  k) ?_
              obtain ⟨T210, X210, e210, st210⟩ := getF X209 hx hZ hown (host := "") (Or.inl (hw _ (List.mem_of_getElem? (i := 55) rfl))) Via.refl e209 G209 (g := (mkF m 88 #[.val (.ref a1), .val (.int (1 : Int32)), .val (.int fd)] [(.ref a1)])) rfl rfl (hb hby d10_88)
              refine own_go st210 ?_
              refine own_go (fun t k => XS.aloadN X210.here hx rfl (hb hby d10_91) rfl rfl  k) ?_
              have F211 : Fld Z h209 a1 "com/example/profitmine/profitmine/io/Fields" "line" "Ljava/lang/String;" (.ref sx) := (F195.other W209 (Or.inr (slot_ne (Or.inl (hw _ (List.mem_of_getElem? (i := 45) rfl))) (Or.inl (hw _ (List.mem_of_getElem? (i := 56) rfl))) (by decide) (t := (.object "java/lang/String")) (t' := .int) (by decide) (by decide))))
              obtain ⟨T212, X212, e212, st212⟩ := getF X210 hx hZ hown (host := "") (Or.inl (hw _ (List.mem_of_getElem? (i := 44) rfl))) Via.refl e210 F211 (g := (mkF m 92 #[.val (.ref a1), .val (.int (1 : Int32)), .val (.int fd)] [(.ref a1), (.int (3 : Int32))])) rfl rfl (hb hby d10_92)
              refine own_go st212 ?_
              have F213 : Old Z n0 h209 := (F197.wr W209 H15)
              have F214 : Exa Z h209 sx "java/lang/String" := (F198.wr W209)
              have F215 : Fld Z h209 sx "java/lang/String" "value" "[B" (.ref tx) := (F199.other W209 (Or.inl H16))
              have F216 : Fld Z h209 sx "java/lang/String" "coder" "B" (.int (0 : Int32)) := (F200.other W209 (Or.inl H16))
              have F217 : Arv Z h209 tx kx .byte (3 : Int32) [(.int (y0.toInt8.toInt32)), (.int (y1.toInt8.toInt32)), (.int (y2.toInt8.toInt32))] (.int 0) := (F201.other W209 H17)
              refine own_callV X212 hx hZ (y := (⟨"java/lang/String", "length", "()I"⟩ : MethodName)) (z := (⟨"java/lang/String", "length", "()I"⟩ : MethodName)) (W := 1) (a := sx) (argsL := []) (rest := [(.int (3 : Int32))]) hown (hw _ (List.mem_of_getElem? (i := 62) rfl)) (hw _ (List.mem_of_getElem? (i := 63) rfl)) (notFace_of_selects (args := #[]) (mvT hZ (hw _ (List.mem_of_getElem? (i := 65) rfl)))) (hw _ (List.mem_of_getElem? (i := 65) rfl)) (hw _ (List.mem_of_getElem? (i := 64) rfl)) (by decide) (own_bk (rm_le l Z a0 hw sx g1 tx kx _ _ _ h209 n0 F213 H7 hg5 F214 F215 F216 F217) hZ (hw _ (List.mem_of_getElem? (i := 66) rfl)) (hw _ (List.mem_of_getElem? (i := 7) rfl)) (by decide) (by decide)) e212 F214 (g := (mkF m 95 #[.val (.ref a1), .val (.int (1 : Int32)), .val (.int fd)] [(.ref sx), (.int (3 : Int32))])) rfl (by rw [hml]; rfl) (lenOf pd_9 rfl) rfl (by show 2 * 0 + _ ≤ _; exact Nat.le_of_eq rfl) (hb hby d10_95) (own_le (Nat.add_le_add_right (Nat.add_le_add_right (Nat.add_le_add_right (Nat.add_le_add_right (Nat.add_le_add_right (Nat.add_le_add_right hc144 0) 0) 0) 0) 0) 0) (by decide)) (own_le (Nat.add_le_add_right (Nat.add_le_add_right (Nat.add_le_add_right (Nat.add_le_add_right (Nat.add_le_add_right (Nat.add_le_add_right hs144 0) 0) 0) 0) 0) 0) (by decide)) (fun v218 T218 h218 L218 X218 e218 q218 => ?_)
              obtain ⟨rfl, M218, s218⟩ := q218
              replace e218 : T218.heap = h209 := e218.trans s218
              have N218 := Fr.app N209 M218
              refine own_go (fun t k => XS.icmpYes X218.here hx rfl (pc0 := 98) (pc' := 131) rfl (hb hby d10_98) rfl (flt (by decide : ¬ ((3 : Int32) < (3 : Int32)))).2.1 (by decide) (by decide) k) ?_
              refine own_go (fun t k => XS.aloadN X218.here hx rfl (hb hby d10_131) rfl rfl  k) ?_
              show own_Run p e below Φ (T218.setTop (mkF m 132 #[.val (.ref a1), .val (.int (1 : Int32)), .val (.int fd)] [(.ref a1)]))
              refine own_go (fun t k => XS.dup X218.here hx rfl (hb hby d10_132) rfl rfl k) ?_
              have F219 : Fld Z h209 a1 "com/example/profitmine/profitmine/io/Fields" "count" "I" (.int cn) := ((((F150.other W174 (Or.inr (slot_ne (Or.inl (hw _ (List.mem_of_getElem? (i := 52) rfl))) (Or.inl (hw _ (List.mem_of_getElem? (i := 54) rfl))) (by decide) (t := .int) (t' := .int) (by decide) (by decide)))).other W177 (Or.inr (slot_ne (Or.inl (hw _ (List.mem_of_getElem? (i := 52) rfl))) (Or.inl (hw _ (List.mem_of_getElem? (i := 56) rfl))) (by decide) (t := .int) (t' := .int) (by decide) (by decide)))).other W193 (Or.inr (slot_ne (Or.inl (hw _ (List.mem_of_getElem? (i := 52) rfl))) (Or.inl (hw _ (List.mem_of_getElem? (i := 56) rfl))) (by decide) (t := .int) (t' := .int) (by decide) (by decide)))).other W209 (Or.inr (slot_ne (Or.inl (hw _ (List.mem_of_getElem? (i := 52) rfl))) (Or.inl (hw _ (List.mem_of_getElem? (i := 56) rfl))) (by decide) (t := .int) (t' := .int) (by decide) (by decide))))
              obtain ⟨T220, X220, e220, st220⟩ := getF X218 hx hZ hown (host := "") (Or.inl (hw _ (List.mem_of_getElem? (i := 51) rfl))) Via.refl e218 F219 (g := (mkF m 133 #[.val (.ref a1), .val (.int (1 : Int32)), .val (.int fd)] [(.ref a1), (.ref a1)])) rfl rfl (hb hby d10_133)
              refine own_go st220 ?_
              refine own_go (fun t k => XS.iconst X220.here hx rfl (hb hby d10_136) k) ?_
              refine own_go (fun t k => XS.iadd X220.here hx rfl (hb hby d10_137) rfl k) ?_
              have F221 : Exa Z h209 a1 "com/example/profitmine/profitmine/io/Fields" := (F208.wr W209)
              obtain ⟨T222, h222, X222, e222, W222, st222⟩ := putF X220 hx hZ hown (host := "") (Or.inl (hw _ (List.mem_of_getElem? (i := 51) rfl))) Via.refl e220 F219 F221 (Or.inl (hw _ (List.mem_of_getElem? (i := 52) rfl))) (hw _ (List.mem_of_getElem? (i := 35) rfl)) (ty := .int) (by decide) rfl rfl (g := (mkF m 138 #[.val (.ref a1), .val (.int (1 : Int32)), .val (.int fd)] [(.int (cn + (1 : Int32))), (.ref a1)])) rfl rfl (hb hby d10_138)
              refine own_go st222 ?_
              have G222 : Fld Z h222 a1 "com/example/profitmine/profitmine/io/Fields" "count" "I" (.int (cn + (1 : Int32))) := F219.same W222
              have N222 := Fr.snoc X222 N218 H15
              refine own_go (fun t k => XS.goto X222.here hx rfl (pc0 := 141) (pc' := 166) rfl (hb hby d10_141) (by decide) (by decide) k) ?_
              refine own_go (fun t k => XS.iloadN X222.here hx rfl (hb hby d10_166) rfl  k) ?_
              have F223 : Keep h0 h222 [a1] := (((((F145.wr W174 (Or.inl (List.mem_of_getElem? (i := 0) rfl))).wr W177 (Or.inl (List.mem_of_getElem? (i := 0) rfl))).wr W193 (Or.inl (List.mem_of_getElem? (i := 0) rfl))).wr W209 (Or.inl (List.mem_of_getElem? (i := 0) rfl))).wr W222 (Or.inl (List.mem_of_getElem? (i := 0) rfl)))
              have F224 : Fld Z h222 a1 "com/example/profitmine/profitmine/io/Fields" "line" "Ljava/lang/String;" (.ref sx) := (F211.other W222 (Or.inr (slot_ne (Or.inl (hw _ (List.mem_of_getElem? (i := 45) rfl))) (Or.inl (hw _ (List.mem_of_getElem? (i := 52) rfl))) (by decide) (t := (.object "java/lang/String")) (t' := .int) (by decide) (by decide))))
              have F225 : Fld Z h222 a1 "com/example/profitmine/profitmine/io/Fields" "start" "I" (.int (1 : Int32)) := ((((G174.other W177 (Or.inr (slot_ne (Or.inl (hw _ (List.mem_of_getElem? (i := 54) rfl))) (Or.inl (hw _ (List.mem_of_getElem? (i := 56) rfl))) (by decide) (t := .int) (t' := .int) (by decide) (by decide)))).other W193 (Or.inr (slot_ne (Or.inl (hw _ (List.mem_of_getElem? (i := 54) rfl))) (Or.inl (hw _ (List.mem_of_getElem? (i := 56) rfl))) (by decide) (t := .int) (t' := .int) (by decide) (by decide)))).other W209 (Or.inr (slot_ne (Or.inl (hw _ (List.mem_of_getElem? (i := 54) rfl))) (Or.inl (hw _ (List.mem_of_getElem? (i := 56) rfl))) (by decide) (t := .int) (t' := .int) (by decide) (by decide)))).other W222 (Or.inr (slot_ne (Or.inl (hw _ (List.mem_of_getElem? (i := 54) rfl))) (Or.inl (hw _ (List.mem_of_getElem? (i := 52) rfl))) (by decide) (t := .int) (t' := .int) (by decide) (by decide))))
              have F226 : Fld Z h222 a1 "com/example/profitmine/profitmine/io/Fields" "end" "I" (.int (3 : Int32)) := (G209.other W222 (Or.inr (slot_ne (Or.inl (hw _ (List.mem_of_getElem? (i := 56) rfl))) (Or.inl (hw _ (List.mem_of_getElem? (i := 52) rfl))) (by decide) (t := .int) (t' := .int) (by decide) (by decide))))
              subst hΦ
              exact own_retN X222 hx (t := .boolean) Bd.returns (by simp) hlk (hb hby d10_167) e222 ⟨⟨_, rfl⟩, N222, F223, F224, ⟨_, _, _, F225, F226, G222, (by decide)⟩⟩ (Nat.le_trans (Nat.add_le_add_right (Nat.add_le_add_right (Nat.add_le_add_right (Nat.add_le_add_right (Nat.add_le_add_right (Nat.add_le_add_right (Nat.add_le_add_right hc144 0) 0) 0) 0) 0) 0) 0) (by decide)) (Nat.le_trans (Nat.add_le_add_right (Nat.add_le_add_right (Nat.add_le_add_right (Nat.add_le_add_right (Nat.add_le_add_right (Nat.add_le_add_right (Nat.add_le_add_right hs144 0) 0) 0) 0) 0) 0) 0) (by decide))
            · refine own_go (fun t k => XS.ifYes X206.here hx rfl (pc0 := 115) (pc' := 131) rfl (hb hby d10_115) rfl ((if0 _ _).trans (feq hc115_2).2) (by decide) (by decide) k) ?_
              refine own_go (fun t k => XS.aloadN X206.here hx rfl (hb hby d10_131) rfl rfl  k) ?_
              show own_Run p e below Φ (T206.setTop (mkF m 132 #[.val (.ref a1), .val (.int (1 : Int32)), .val (.int fd)] [(.ref a1)]))
              refine own_go (fun t k => XS.dup X206.here hx rfl (hb hby d10_132) rfl rfl k) ?_
              have F227 : Fld Z h193 a1 "com/example/profitmine/profitmine/io/Fields" "count" "I" (.int cn) := (((F150.other W174 (Or.inr (slot_ne (Or.inl (hw _ (List.mem_of_getElem? (i := 52) rfl))) (Or.inl (hw _ (List.mem_of_getElem? (i := 54) rfl))) (by decide) (t := .int) (t' := .int) (by decide) (by decide)))).other W177 (Or.inr (slot_ne (Or.inl (hw _ (List.mem_of_getElem? (i := 52) rfl))) (Or.inl (hw _ (List.mem_of_getElem? (i := 56) rfl))) (by decide) (t := .int) (t' := .int) (by decide) (by decide)))).other W193 (Or.inr (slot_ne (Or.inl (hw _ (List.mem_of_getElem? (i := 52) rfl))) (Or.inl (hw _ (List.mem_of_getElem? (i := 56) rfl))) (by decide) (t := .int) (t' := .int) (by decide) (by decide))))
              obtain ⟨T228, X228, e228, st228⟩ := getF X206 hx hZ hown (host := "") (Or.inl (hw _ (List.mem_of_getElem? (i := 51) rfl))) Via.refl e206 F227 (g := (mkF m 133 #[.val (.ref a1), .val (.int (1 : Int32)), .val (.int fd)] [(.ref a1), (.ref a1)])) rfl rfl (hb hby d10_133)
              refine own_go st228 ?_
              refine own_go (fun t k => XS.iconst X228.here hx rfl (hb hby d10_136) k) ?_
              refine own_go (fun t k => XS.iadd X228.here hx rfl (hb hby d10_137) rfl k) ?_
              have F229 : Exa Z h193 a1 "com/example/profitmine/profitmine/io/Fields" := (F192.wr W193)
              obtain ⟨T230, h230, X230, e230, W230, st230⟩ := putF X228 hx hZ hown (host := "") (Or.inl (hw _ (List.mem_of_getElem? (i := 51) rfl))) Via.refl e228 F227 F229 (Or.inl (hw _ (List.mem_of_getElem? (i := 52) rfl))) (hw _ (List.mem_of_getElem? (i := 35) rfl)) (ty := .int) (by decide) rfl rfl (g := (mkF m 138 #[.val (.ref a1), .val (.int (1 : Int32)), .val (.int fd)] [(.int (cn + (1 : Int32))), (.ref a1)])) rfl rfl (hb hby d10_138)
              refine own_go st230 ?_
              have G230 : Fld Z h230 a1 "com/example/profitmine/profitmine/io/Fields" "count" "I" (.int (cn + (1 : Int32))) := F227.same W230
              have N230 := Fr.snoc X230 N206 H15
              refine own_go (fun t k => XS.goto X230.here hx rfl (pc0 := 141) (pc' := 166) rfl (hb hby d10_141) (by decide) (by decide) k) ?_
              refine own_go (fun t k => XS.iloadN X230.here hx rfl (hb hby d10_166) rfl  k) ?_
              have F231 : Keep h0 h230 [a1] := ((((F145.wr W174 (Or.inl (List.mem_of_getElem? (i := 0) rfl))).wr W177 (Or.inl (List.mem_of_getElem? (i := 0) rfl))).wr W193 (Or.inl (List.mem_of_getElem? (i := 0) rfl))).wr W230 (Or.inl (List.mem_of_getElem? (i := 0) rfl)))
              have F232 : Fld Z h230 a1 "com/example/profitmine/profitmine/io/Fields" "line" "Ljava/lang/String;" (.ref sx) := (F195.other W230 (Or.inr (slot_ne (Or.inl (hw _ (List.mem_of_getElem? (i := 45) rfl))) (Or.inl (hw _ (List.mem_of_getElem? (i := 52) rfl))) (by decide) (t := (.object "java/lang/String")) (t' := .int) (by decide) (by decide))))
              have F233 : Fld Z h230 a1 "com/example/profitmine/profitmine/io/Fields" "start" "I" (.int (1 : Int32)) := (((G174.other W177 (Or.inr (slot_ne (Or.inl (hw _ (List.mem_of_getElem? (i := 54) rfl))) (Or.inl (hw _ (List.mem_of_getElem? (i := 56) rfl))) (by decide) (t := .int) (t' := .int) (by decide) (by decide)))).other W193 (Or.inr (slot_ne (Or.inl (hw _ (List.mem_of_getElem? (i := 54) rfl))) (Or.inl (hw _ (List.mem_of_getElem? (i := 56) rfl))) (by decide) (t := .int) (t' := .int) (by decide) (by decide)))).other W230 (Or.inr (slot_ne (Or.inl (hw _ (List.mem_of_getElem? (i := 54) rfl))) (Or.inl (hw _ (List.mem_of_getElem? (i := 52) rfl))) (by decide) (t := .int) (t' := .int) (by decide) (by decide))))
              have F234 : Fld Z h230 a1 "com/example/profitmine/profitmine/io/Fields" "end" "I" (.int (2 : Int32)) := (G193.other W230 (Or.inr (slot_ne (Or.inl (hw _ (List.mem_of_getElem? (i := 56) rfl))) (Or.inl (hw _ (List.mem_of_getElem? (i := 52) rfl))) (by decide) (t := .int) (t' := .int) (by decide) (by decide))))
              subst hΦ
              exact own_retN X230 hx (t := .boolean) Bd.returns (by simp) hlk (hb hby d10_167) e230 ⟨⟨_, rfl⟩, N230, F231, F232, ⟨_, _, _, F233, F234, G230, (by decide)⟩⟩ (Nat.le_trans (Nat.add_le_add_right (Nat.add_le_add_right (Nat.add_le_add_right (Nat.add_le_add_right (Nat.add_le_add_right (Nat.add_le_add_right hc144 0) 0) 0) 0) 0) 0) (by decide)) (Nat.le_trans (Nat.add_le_add_right (Nat.add_le_add_right (Nat.add_le_add_right (Nat.add_le_add_right (Nat.add_le_add_right (Nat.add_le_add_right hs144 0) 0) 0) 0) 0) 0) (by decide))
          · refine own_go (fun t k => XS.ifYes X190.here hx rfl (pc0 := 115) (pc' := 131) rfl (hb hby d10_115) rfl ((if0 _ _).trans (feq hc115).2) (by decide) (by decide) k) ?_
            refine own_go (fun t k => XS.aloadN X190.here hx rfl (hb hby d10_131) rfl rfl  k) ?_
            show own_Run p e below Φ (T190.setTop (mkF m 132 #[.val (.ref a1), .val (.int (1 : Int32)), .val (.int fd)] [(.ref a1)]))
            refine own_go (fun t k => XS.dup X190.here hx rfl (hb hby d10_132) rfl rfl k) ?_
            have F235 : Fld Z h177 a1 "com/example/profitmine/profitmine/io/Fields" "count" "I" (.int cn) := ((F150.other W174 (Or.inr (slot_ne (Or.inl (hw _ (List.mem_of_getElem? (i := 52) rfl))) (Or.inl (hw _ (List.mem_of_getElem? (i := 54) rfl))) (by decide) (t := .int) (t' := .int) (by decide) (by decide)))).other W177 (Or.inr (slot_ne (Or.inl (hw _ (List.mem_of_getElem? (i := 52) rfl))) (Or.inl (hw _ (List.mem_of_getElem? (i := 56) rfl))) (by decide) (t := .int) (t' := .int) (by decide) (by decide))))
            obtain ⟨T236, X236, e236, st236⟩ := getF X190 hx hZ hown (host := "") (Or.inl (hw _ (List.mem_of_getElem? (i := 51) rfl))) Via.refl e190 F235 (g := (mkF m 133 #[.val (.ref a1), .val (.int (1 : Int32)), .val (.int fd)] [(.ref a1), (.ref a1)])) rfl rfl (hb hby d10_133)
            refine own_go st236 ?_
            refine own_go (fun t k => XS.iconst X236.here hx rfl (hb hby d10_136) k) ?_
            refine own_go (fun t k => XS.iadd X236.here hx rfl (hb hby d10_137) rfl k) ?_
            have F237 : Exa Z h177 a1 "com/example/profitmine/profitmine/io/Fields" := (F176.wr W177)
            obtain ⟨T238, h238, X238, e238, W238, st238⟩ := putF X236 hx hZ hown (host := "") (Or.inl (hw _ (List.mem_of_getElem? (i := 51) rfl))) Via.refl e236 F235 F237 (Or.inl (hw _ (List.mem_of_getElem? (i := 52) rfl))) (hw _ (List.mem_of_getElem? (i := 35) rfl)) (ty := .int) (by decide) rfl rfl (g := (mkF m 138 #[.val (.ref a1), .val (.int (1 : Int32)), .val (.int fd)] [(.int (cn + (1 : Int32))), (.ref a1)])) rfl rfl (hb hby d10_138)
            refine own_go st238 ?_
            have G238 : Fld Z h238 a1 "com/example/profitmine/profitmine/io/Fields" "count" "I" (.int (cn + (1 : Int32))) := F235.same W238
            have N238 := Fr.snoc X238 N190 H15
            refine own_go (fun t k => XS.goto X238.here hx rfl (pc0 := 141) (pc' := 166) rfl (hb hby d10_141) (by decide) (by decide) k) ?_
            refine own_go (fun t k => XS.iloadN X238.here hx rfl (hb hby d10_166) rfl  k) ?_
            have F239 : Keep h0 h238 [a1] := (((F145.wr W174 (Or.inl (List.mem_of_getElem? (i := 0) rfl))).wr W177 (Or.inl (List.mem_of_getElem? (i := 0) rfl))).wr W238 (Or.inl (List.mem_of_getElem? (i := 0) rfl)))
            have F240 : Fld Z h238 a1 "com/example/profitmine/profitmine/io/Fields" "line" "Ljava/lang/String;" (.ref sx) := (F179.other W238 (Or.inr (slot_ne (Or.inl (hw _ (List.mem_of_getElem? (i := 45) rfl))) (Or.inl (hw _ (List.mem_of_getElem? (i := 52) rfl))) (by decide) (t := (.object "java/lang/String")) (t' := .int) (by decide) (by decide))))
            have F241 : Fld Z h238 a1 "com/example/profitmine/profitmine/io/Fields" "start" "I" (.int (1 : Int32)) := ((G174.other W177 (Or.inr (slot_ne (Or.inl (hw _ (List.mem_of_getElem? (i := 54) rfl))) (Or.inl (hw _ (List.mem_of_getElem? (i := 56) rfl))) (by decide) (t := .int) (t' := .int) (by decide) (by decide)))).other W238 (Or.inr (slot_ne (Or.inl (hw _ (List.mem_of_getElem? (i := 54) rfl))) (Or.inl (hw _ (List.mem_of_getElem? (i := 52) rfl))) (by decide) (t := .int) (t' := .int) (by decide) (by decide))))
            have F242 : Fld Z h238 a1 "com/example/profitmine/profitmine/io/Fields" "end" "I" (.int (1 : Int32)) := (G177.other W238 (Or.inr (slot_ne (Or.inl (hw _ (List.mem_of_getElem? (i := 56) rfl))) (Or.inl (hw _ (List.mem_of_getElem? (i := 52) rfl))) (by decide) (t := .int) (t' := .int) (by decide) (by decide))))
            subst hΦ
            exact own_retN X238 hx (t := .boolean) Bd.returns (by simp) hlk (hb hby d10_167) e238 ⟨⟨_, rfl⟩, N238, F239, F240, ⟨_, _, _, F241, F242, G238, (by decide)⟩⟩ (Nat.le_trans (Nat.add_le_add_right (Nat.add_le_add_right (Nat.add_le_add_right hc144 0) 0) 0) (by decide)) (Nat.le_trans (Nat.add_le_add_right (Nat.add_le_add_right (Nat.add_le_add_right hs144 0) 0) 0) (by decide))
      show own_Run p e below Φ (T2.setTop (mkF m 36 #[.val (.ref a1), .val (.int (1 : Int32)), .unset] []))
      refine own_go (fun t k => XS.iloadN X2.here hx rfl (hb hby d10_36) rfl  k) ?_
      refine own_go (fun t k => XS.aloadN X2.here hx rfl (hb hby d10_37) rfl rfl  k) ?_
      show own_Run p e below Φ (T2.setTop (mkF m 38 #[.val (.ref a1), .val (.int (1 : Int32)), .unset] [(.ref a1), (.int (1 : Int32))]))
      obtain ⟨T243, X243, e243, st243⟩ := getF X2 hx hZ hown (host := "") (Or.inl (hw _ (List.mem_of_getElem? (i := 44) rfl))) Via.refl e2 F5 (g := (mkF m 38 #[.val (.ref a1), .val (.int (1 : Int32)), .unset] [(.ref a1), (.int (1 : Int32))])) rfl rfl (hb hby d10_38)
      refine own_go st243 ?_
      refine own_callV X243 hx hZ (y := (⟨"java/lang/String", "length", "()I"⟩ : MethodName)) (z := (⟨"java/lang/String", "length", "()I"⟩ : MethodName)) (W := 1) (a := sx) (argsL := []) (rest := [(.int (1 : Int32))]) hown (hw _ (List.mem_of_getElem? (i := 62) rfl)) (hw _ (List.mem_of_getElem? (i := 63) rfl)) (notFace_of_selects (args := #[]) (mvT hZ (hw _ (List.mem_of_getElem? (i := 65) rfl)))) (hw _ (List.mem_of_getElem? (i := 65) rfl)) (hw _ (List.mem_of_getElem? (i := 64) rfl)) (by decide) (own_bk (rm_le l Z a0 hw sx g1 tx kx _ _ _ h2 n0 F9 H7 hg5 F10 F11 F12 F13) hZ (hw _ (List.mem_of_getElem? (i := 66) rfl)) (hw _ (List.mem_of_getElem? (i := 7) rfl)) (by decide) (by decide)) e243 F10 (g := (mkF m 41 #[.val (.ref a1), .val (.int (1 : Int32)), .unset] [(.ref sx), (.int (1 : Int32))])) rfl (by rw [hml]; rfl) (lenOf pd_9 rfl) rfl (by show 2 * 0 + _ ≤ _; exact Nat.le_of_eq rfl) (hb hby d10_41) (own_le hc2 (by decide)) (own_le hs2 (by decide)) (fun v244 T244 h244 L244 X244 e244 q244 => ?_)
      obtain ⟨rfl, M244, s244⟩ := q244
      replace e244 : T244.heap = h2 := e244.trans s244
      have N244 := Fr.app N2 M244
      refine own_go (fun t k => XS.icmpNo X244.here hx rfl (hb hby d10_44) rfl (tlt (by decide : (1 : Int32) < (3 : Int32))).2.1 k) ?_
      refine own_go (fun t k => XS.aloadN X244.here hx rfl (hb hby d10_47) rfl rfl  k) ?_
      obtain ⟨T245, X245, e245, st245⟩ := getF X244 hx hZ hown (host := "") (Or.inl (hw _ (List.mem_of_getElem? (i := 51) rfl))) Via.refl e244 F8 (g := (mkF m 48 #[.val (.ref a1), .val (.int (1 : Int32)), .unset] [(.ref a1)])) rfl rfl (hb hby d10_48)
      refine own_go st245 ?_
      by_cases hc51 : (0 : Int32) < cn
      · refine own_go (fun t k => XS.ifYes X245.here hx rfl (pc0 := 51) (pc' := 67) rfl (hb hby d10_51) rfl ((if0 _ _).trans (tlt hc51).2.2.1) (by decide) (by decide) k) ?_
        refine own_go (fun t k => XS.iconst X245.here hx rfl (hb hby d10_67) k) ?_
        refine own_go (fun t k => XS.goto X245.here hx rfl (pc0 := 68) (pc' := 72) rfl (hb hby d10_68) (by decide) (by decide) k) ?_
        exact J72_143 (1 : Int32) T245 h2 _ _ _ X245 e245 N244 (Nat.add_le_add_right hc2 0) (Nat.add_le_add_right hs2 0) F3 F4 F5 F6 F7 F8 F9 F10 F11 F12 F13
      · refine own_go (fun t k => XS.ifNo X245.here hx rfl (hb hby d10_51) rfl ((if0 _ _).trans (flt hc51).2.2.1) k) ?_
        refine own_go (fun t k => XS.aloadN X245.here hx rfl (hb hby d10_54) rfl rfl  k) ?_
        show own_Run p e below Φ (T245.setTop (mkF m 55 #[.val (.ref a1), .val (.int (1 : Int32)), .unset] [(.ref a1)]))
        obtain ⟨T246, X246, e246, st246⟩ := getF X245 hx hZ hown (host := "") (Or.inl (hw _ (List.mem_of_getElem? (i := 44) rfl))) Via.refl e245 F5 (g := (mkF m 55 #[.val (.ref a1), .val (.int (1 : Int32)), .unset] [(.ref a1)])) rfl rfl (hb hby d10_55)
        refine own_go st246 ?_
        refine own_go (fun t k => XS.iloadN X246.here hx rfl (hb hby d10_58) rfl  k) ?_
        refine own_callV X246 hx hZ (y := (⟨"java/lang/String", "charAt", "(I)C"⟩ : MethodName)) (z := (⟨"java/lang/String", "charAt", "(I)C"⟩ : MethodName)) (W := 0) (a := sx) (argsL := [(.int (1 : Int32))]) (rest := []) hown (hw _ (List.mem_of_getElem? (i := 72) rfl)) (hw _ (List.mem_of_getElem? (i := 73) rfl)) (notFace_of_selects (args := #[]) (mvT hZ (hw _ (List.mem_of_getElem? (i := 75) rfl)))) (hw _ (List.mem_of_getElem? (i := 75) rfl)) (hw _ (List.mem_of_getElem? (i := 74) rfl)) (by decide) (own_bk (rm_ch1 l Z a0 hw sx g1 g3 tx kx _ _ _ h2 n0 F9 H7 hg5 H9 hr F10 F11 F12 F13 hy.2.1) hZ (hw _ (List.mem_of_getElem? (i := 76) rfl)) (hw _ (List.mem_of_getElem? (i := 7) rfl)) (by decide) (by decide)) e246 F10 (g := (mkF m 59 #[.val (.ref a1), .val (.int (1 : Int32)), .unset] [(.int (1 : Int32)), (.ref sx)])) rfl (by rw [hml]; rfl) (lenOf pd_0 rfl) rfl (by show 2 * 0 + _ ≤ _; exact Nat.le_of_eq rfl) (hb hby d10_59) (own_le (Nat.add_le_add_right hc2 0) (by decide)) (own_le (Nat.add_le_add_right hs2 0) (by decide)) (fun v247 T247 h247 L247 X247 e247 q247 => ?_)
        obtain ⟨rfl, M247, s247⟩ := q247
        replace e247 : T247.heap = h2 := e247.trans s247
        have N247 := Fr.app N244 M247
        refine own_go (fun t k => XS.bipush X247.here hx rfl (hb hby d10_62) k) ?_
        by_cases hc64 : y1 = (35 : Int32)
        · refine own_go (fun t k => XS.icmpYes X247.here hx rfl (pc0 := 64) (pc' := 71) rfl (hb hby d10_64) rfl (teq hc64).1 (by decide) (by decide) k) ?_
          refine own_go (fun t k => XS.iconst X247.here hx rfl (hb hby d10_71) k) ?_
          exact J72_143 (0 : Int32) T247 h2 _ _ _ X247 e247 N247 (Nat.add_le_add_right (Nat.add_le_add_right hc2 0) 0) (Nat.add_le_add_right (Nat.add_le_add_right hs2 0) 0) F3 F4 F5 F6 F7 F8 F9 F10 F11 F12 F13
        · refine own_go (fun t k => XS.icmpNo X247.here hx rfl (hb hby d10_64) rfl (feq hc64).1 k) ?_
          refine own_go (fun t k => XS.iconst X247.here hx rfl (hb hby d10_67) k) ?_
          refine own_go (fun t k => XS.goto X247.here hx rfl (pc0 := 68) (pc' := 72) rfl (hb hby d10_68) (by decide) (by decide) k) ?_
          exact J72_143 (1 : Int32) T247 h2 _ _ _ X247 e247 N247 (Nat.add_le_add_right (Nat.add_le_add_right hc2 0) 0) (Nat.add_le_add_right (Nat.add_le_add_right hs2 0) 0) F3 F4 F5 F6 F7 F8 F9 F10 F11 F12 F13
    · skip
      have J72_248 : ∀ (fd : Int32) (T249 : State) (h249 : Heap) (l249 : List Loc) (c249 z249 : Nat), (Stand p l e ({ frames := 4, cells := 0, slots := 0, locals := 53 } : Room) s m #[(.ref a1)] below meth c T249 l249 c249 z249) → (T249.heap = h249) → (Fr n0 l249) → (c249 ≤ 0) → (z249 ≤ 0) → (Keep h0 h249 [a1]) → (Exa Z h249 a1 "com/example/profitmine/profitmine/io/Fields") → (Fld Z h249 a1 "com/example/profitmine/profitmine/io/Fields" "line" "Ljava/lang/String;" (.ref sx)) → (Fld Z h249 a1 "com/example/profitmine/profitmine/io/Fields" "start" "I" (.int sn)) → (Fld Z h249 a1 "com/example/profitmine/profitmine/io/Fields" "end" "I" (.int en)) → (Fld Z h249 a1 "com/example/profitmine/profitmine/io/Fields" "count" "I" (.int cn)) → (Old Z n0 h249) → (Exa Z h249 sx "java/lang/String") → (Fld Z h249 sx "java/lang/String" "value" "[B" (.ref tx)) → (Fld Z h249 sx "java/lang/String" "coder" "B" (.int (0 : Int32))) → (Arv Z h249 tx kx .byte (3 : Int32) [(.int (y0.toInt8.toInt32)), (.int (y1.toInt8.toInt32)), (.int (y2.toInt8.toInt32))] (.int 0)) → own_Run p e below Φ (T249.setTop (mkF m 72 #[.val (.ref a1), .val (.int (2 : Int32)), .unset] [(.int fd)])) := by
        intro fd T249 h249 l249 c249 z249 X249 e249 N249 hc249 hs249 F250 F251 F252 F253 F254 F255 F256 F257 F258 F259 F260
        show own_Run p e below Φ (T249.setTop (mkF m 72 #[.val (.ref a1), .val (.int (2 : Int32)), .unset] [(.int fd)]))
        refine own_go (fun t k => XS.istoreN X249.here hx rfl (hb hby d10_72) rfl (l' := #[.val (.ref a1), .val (.int (2 : Int32)), .val (.int fd)]) rfl k) ?_
        refine own_go (fun t k => XS.iloadN X249.here hx rfl (hb hby d10_73) rfl  k) ?_
        by_cases hc74 : fd = (0 : Int32)
        · refine own_go (fun t k => XS.ifYes X249.here hx rfl (pc0 := 74) (pc' := 144) rfl (hb hby d10_74) rfl ((if0 _ _).trans (teq hc74).1) (by decide) (by decide) k) ?_
          refine own_go (fun t k => XS.aloadN X249.here hx rfl (hb hby d10_144) rfl rfl  k) ?_
          refine own_go (fun t k => XS.aloadN X249.here hx rfl (hb hby d10_145) rfl rfl  k) ?_
          obtain ⟨T261, X261, e261, st261⟩ := getF X249 hx hZ hown (host := "") (Or.inl (hw _ (List.mem_of_getElem? (i := 44) rfl))) Via.refl e249 F252 (g := (mkF m 146 #[.val (.ref a1), .val (.int (2 : Int32)), .val (.int fd)] [(.ref a1), (.ref a1)])) rfl rfl (hb hby d10_146)
          refine own_go st261 ?_
          refine own_callV X261 hx hZ (y := (⟨"java/lang/String", "length", "()I"⟩ : MethodName)) (z := (⟨"java/lang/String", "length", "()I"⟩ : MethodName)) (W := 1) (a := sx) (argsL := []) (rest := [(.ref a1)]) hown (hw _ (List.mem_of_getElem? (i := 62) rfl)) (hw _ (List.mem_of_getElem? (i := 63) rfl)) (notFace_of_selects (args := #[]) (mvT hZ (hw _ (List.mem_of_getElem? (i := 65) rfl)))) (hw _ (List.mem_of_getElem? (i := 65) rfl)) (hw _ (List.mem_of_getElem? (i := 64) rfl)) (by decide) (own_bk (rm_le l Z a0 hw sx g1 tx kx _ _ _ h249 n0 F256 H7 hg5 F257 F258 F259 F260) hZ (hw _ (List.mem_of_getElem? (i := 66) rfl)) (hw _ (List.mem_of_getElem? (i := 7) rfl)) (by decide) (by decide)) e261 F257 (g := (mkF m 149 #[.val (.ref a1), .val (.int (2 : Int32)), .val (.int fd)] [(.ref sx), (.ref a1)])) rfl (by rw [hml]; rfl) (lenOf pd_9 rfl) rfl (by show 2 * 0 + _ ≤ _; exact Nat.le_of_eq rfl) (hb hby d10_149) (own_le hc249 (by decide)) (own_le hs249 (by decide)) (fun v262 T262 h262 L262 X262 e262 q262 => ?_)
          obtain ⟨rfl, M262, s262⟩ := q262
          replace e262 : T262.heap = h249 := e262.trans s262
          have N262 := Fr.app N249 M262
          obtain ⟨T263, h263, X263, e263, W263, st263⟩ := putF X262 hx hZ hown (host := "") (Or.inl (hw _ (List.mem_of_getElem? (i := 53) rfl))) Via.refl e262 F253 F251 (Or.inl (hw _ (List.mem_of_getElem? (i := 54) rfl))) (hw _ (List.mem_of_getElem? (i := 35) rfl)) (ty := .int) (by decide) rfl rfl (g := (mkF m 152 #[.val (.ref a1), .val (.int (2 : Int32)), .val (.int fd)] [(.int (3 : Int32)), (.ref a1)])) rfl rfl (hb hby d10_152)
          refine own_go st263 ?_
          have G263 : Fld Z h263 a1 "com/example/profitmine/profitmine/io/Fields" "start" "I" (.int (3 : Int32)) := F253.same W263
          have N263 := Fr.snoc X263 N262 H15
          refine own_go (fun t k => XS.aloadN X263.here hx rfl (hb hby d10_155) rfl rfl  k) ?_
          show own_Run p e below Φ (T263.setTop (mkF m 156 #[.val (.ref a1), .val (.int (2 : Int32)), .val (.int fd)] [(.ref a1)]))
          refine own_go (fun t k => XS.aloadN X263.here hx rfl (hb hby d10_156) rfl rfl  k) ?_
          have F264 : Fld Z h263 a1 "com/example/profitmine/profitmine/io/Fields" "line" "Ljava/lang/String;" (.ref sx) := (F252.other W263 (Or.inr (slot_ne (Or.inl (hw _ (List.mem_of_getElem? (i := 45) rfl))) (Or.inl (hw _ (List.mem_of_getElem? (i := 54) rfl))) (by decide) (t := (.object "java/lang/String")) (t' := .int) (by decide) (by decide))))
          obtain ⟨T265, X265, e265, st265⟩ := getF X263 hx hZ hown (host := "") (Or.inl (hw _ (List.mem_of_getElem? (i := 44) rfl))) Via.refl e263 F264 (g := (mkF m 157 #[.val (.ref a1), .val (.int (2 : Int32)), .val (.int fd)] [(.ref a1), (.ref a1)])) rfl rfl (hb hby d10_157)
          refine own_go st265 ?_
          have F266 : Old Z n0 h263 := (F256.wr W263 H15)
          have F267 : Exa Z h263 sx "java/lang/String" := (F257.wr W263)
          have F268 : Fld Z h263 sx "java/lang/String" "value" "[B" (.ref tx) := (F258.other W263 (Or.inl H16))
          have F269 : Fld Z h263 sx "java/lang/String" "coder" "B" (.int (0 : Int32)) := (F259.other W263 (Or.inl H16))
          have F270 : Arv Z h263 tx kx .byte (3 : Int32) [(.int (y0.toInt8.toInt32)), (.int (y1.toInt8.toInt32)), (.int (y2.toInt8.toInt32))] (.int 0) := (F260.other W263 H17)
          refine own_callV X265 hx hZ (y := (⟨"java/lang/String", "length", "()I"⟩ : MethodName)) (z := (⟨"java/lang/String", "length", "()I"⟩ : MethodName)) (W := 1) (a := sx) (argsL := []) (rest := [(.ref a1)]) hown (hw _ (List.mem_of_getElem? (i := 62) rfl)) (hw _ (List.mem_of_getElem? (i := 63) rfl)) (notFace_of_selects (args := #[]) (mvT hZ (hw _ (List.mem_of_getElem? (i := 65) rfl)))) (hw _ (List.mem_of_getElem? (i := 65) rfl)) (hw _ (List.mem_of_getElem? (i := 64) rfl)) (by decide) (own_bk (rm_le l Z a0 hw sx g1 tx kx _ _ _ h263 n0 F266 H7 hg5 F267 F268 F269 F270) hZ (hw _ (List.mem_of_getElem? (i := 66) rfl)) (hw _ (List.mem_of_getElem? (i := 7) rfl)) (by decide) (by decide)) e265 F267 (g := (mkF m 160 #[.val (.ref a1), .val (.int (2 : Int32)), .val (.int fd)] [(.ref sx), (.ref a1)])) rfl (by rw [hml]; rfl) (lenOf pd_9 rfl) rfl (by show 2 * 0 + _ ≤ _; exact Nat.le_of_eq rfl) (hb hby d10_160) (own_le (Nat.add_le_add_right hc249 0) (by decide)) (own_le (Nat.add_le_add_right hs249 0) (by decide)) (fun v271 T271 h271 L271 X271 e271 q271 => ?_)
          obtain ⟨rfl, M271, s271⟩ := q271
          replace e271 : T271.heap = h263 := e271.trans s271
          have N271 := Fr.app N263 M271
          have F272 : Fld Z h263 a1 "com/example/profitmine/profitmine/io/Fields" "end" "I" (.int en) := (F254.other W263 (Or.inr (slot_ne (Or.inl (hw _ (List.mem_of_getElem? (i := 56) rfl))) (Or.inl (hw _ (List.mem_of_getElem? (i := 54) rfl))) (by decide) (t := .int) (t' := .int) (by decide) (by decide))))
          have F273 : Exa Z h263 a1 "com/example/profitmine/profitmine/io/Fields" := (F251.wr W263)
          obtain ⟨T274, h274, X274, e274, W274, st274⟩ := putF X271 hx hZ hown (host := "") (Or.inl (hw _ (List.mem_of_getElem? (i := 55) rfl))) Via.refl e271 F272 F273 (Or.inl (hw _ (List.mem_of_getElem? (i := 56) rfl))) (hw _ (List.mem_of_getElem? (i := 35) rfl)) (ty := .int) (by decide) rfl rfl (g := (mkF m 163 #[.val (.ref a1), .val (.int (2 : Int32)), .val (.int fd)] [(.int (3 : Int32)), (.ref a1)])) rfl rfl (hb hby d10_163)
          refine own_go st274 ?_
          have G274 : Fld Z h274 a1 "com/example/profitmine/profitmine/io/Fields" "end" "I" (.int (3 : Int32)) := F272.same W274
          have N274 := Fr.snoc X274 N271 H15
          refine own_go (fun t k => XS.iloadN X274.here hx rfl (hb hby d10_166) rfl  k) ?_
          have F275 : Keep h0 h274 [a1] := ((F250.wr W263 (Or.inl (List.mem_of_getElem? (i := 0) rfl))).wr W274 (Or.inl (List.mem_of_getElem? (i := 0) rfl)))
          have F276 : Fld Z h274 a1 "com/example/profitmine/profitmine/io/Fields" "line" "Ljava/lang/String;" (.ref sx) := (F264.other W274 (Or.inr (slot_ne (Or.inl (hw _ (List.mem_of_getElem? (i := 45) rfl))) (Or.inl (hw _ (List.mem_of_getElem? (i := 56) rfl))) (by decide) (t := (.object "java/lang/String")) (t' := .int) (by decide) (by decide))))
          have F277 : Fld Z h274 a1 "com/example/profitmine/profitmine/io/Fields" "start" "I" (.int (3 : Int32)) := (G263.other W274 (Or.inr (slot_ne (Or.inl (hw _ (List.mem_of_getElem? (i := 54) rfl))) (Or.inl (hw _ (List.mem_of_getElem? (i := 56) rfl))) (by decide) (t := .int) (t' := .int) (by decide) (by decide))))
          have F278 : Fld Z h274 a1 "com/example/profitmine/profitmine/io/Fields" "count" "I" (.int cn) := ((F255.other W263 (Or.inr (slot_ne (Or.inl (hw _ (List.mem_of_getElem? (i := 52) rfl))) (Or.inl (hw _ (List.mem_of_getElem? (i := 54) rfl))) (by decide) (t := .int) (t' := .int) (by decide) (by decide)))).other W274 (Or.inr (slot_ne (Or.inl (hw _ (List.mem_of_getElem? (i := 52) rfl))) (Or.inl (hw _ (List.mem_of_getElem? (i := 56) rfl))) (by decide) (t := .int) (t' := .int) (by decide) (by decide))))
          subst hΦ
          exact own_retN X274 hx (t := .boolean) Bd.returns (by simp) hlk (hb hby d10_167) e274 ⟨⟨_, rfl⟩, N274, F275, F276, ⟨_, _, _, F277, G274, F278, (by decide)⟩⟩ (Nat.le_trans (Nat.add_le_add_right (Nat.add_le_add_right hc249 0) 0) (by decide)) (Nat.le_trans (Nat.add_le_add_right (Nat.add_le_add_right hs249 0) 0) (by decide))
        · refine own_go (fun t k => XS.ifNo X249.here hx rfl (hb hby d10_74) rfl ((if0 _ _).trans (feq hc74).1) k) ?_
          refine own_go (fun t k => XS.aloadN X249.here hx rfl (hb hby d10_77) rfl rfl  k) ?_
          refine own_go (fun t k => XS.iloadN X249.here hx rfl (hb hby d10_78) rfl  k) ?_
          obtain ⟨T279, h279, X279, e279, W279, st279⟩ := putF X249 hx hZ hown (host := "") (Or.inl (hw _ (List.mem_of_getElem? (i := 53) rfl))) Via.refl e249 F253 F251 (Or.inl (hw _ (List.mem_of_getElem? (i := 54) rfl))) (hw _ (List.mem_of_getElem? (i := 35) rfl)) (ty := .int) (by decide) rfl rfl (g := (mkF m 79 #[.val (.ref a1), .val (.int (2 : Int32)), .val (.int fd)] [(.int (2 : Int32)), (.ref a1)])) rfl rfl (hb hby d10_79)
          refine own_go st279 ?_
          have G279 : Fld Z h279 a1 "com/example/profitmine/profitmine/io/Fields" "start" "I" (.int (2 : Int32)) := F253.same W279
          have N279 := Fr.snoc X279 N249 H15
          show own_Run p e below Φ (T279.setTop (mkF m 82 #[.val (.ref a1), .val (.int (2 : Int32)), .val (.int fd)] []))
          refine own_go (fun t k => XS.aloadN X279.here hx rfl (hb hby d10_82) rfl rfl  k) ?_
          refine own_go (fun t k => XS.iloadN X279.here hx rfl (hb hby d10_83) rfl  k) ?_
          have F280 : Fld Z h279 a1 "com/example/profitmine/profitmine/io/Fields" "end" "I" (.int en) := (F254.other W279 (Or.inr (slot_ne (Or.inl (hw _ (List.mem_of_getElem? (i := 56) rfl))) (Or.inl (hw _ (List.mem_of_getElem? (i := 54) rfl))) (by decide) (t := .int) (t' := .int) (by decide) (by decide))))
          have F281 : Exa Z h279 a1 "com/example/profitmine/profitmine/io/Fields" := (F251.wr W279)
          obtain ⟨T282, h282, X282, e282, W282, st282⟩ := putF X279 hx hZ hown (host := "") (Or.inl (hw _ (List.mem_of_getElem? (i := 55) rfl))) Via.refl e279 F280 F281 (Or.inl (hw _ (List.mem_of_getElem? (i := 56) rfl))) (hw _ (List.mem_of_getElem? (i := 35) rfl)) (ty := .int) (by decide) rfl rfl (g := (mkF m 84 #[.val (.ref a1), .val (.int (2 : Int32)), .val (.int fd)] [(.int (2 : Int32)), (.ref a1)])) rfl rfl (hb hby d10_84)
          refine own_go st282 ?_
          have G282 : Fld Z h282 a1 "com/example/profitmine/profitmine/io/Fields" "end" "I" (.int (2 : Int32)) := F280.same W282
          have N282 := Fr.snoc X282 N279 H15
          refine own_go (fun t k => XS.aloadN X282.here hx rfl (hb hby d10_87) rfl rfl  k) ?_
          obtain ⟨T283, X283, e283, st283⟩ := getF X282 hx hZ hown (host := "") (Or.inl (hw _ (List.mem_of_getElem? (i := 55) rfl))) Via.refl e282 G282 (g := (mkF m 88 #[.val (.ref a1), .val (.int (2 : Int32)), .val (.int fd)] [(.ref a1)])) rfl rfl (hb hby d10_88)
          refine own_go st283 ?_
          refine own_go (fun t k => XS.aloadN X283.here hx rfl (hb hby d10_91) rfl rfl  k) ?_
          have F284 : Fld Z h282 a1 "com/example/profitmine/profitmine/io/Fields" "line" "Ljava/lang/String;" (.ref sx) := ((F252.other W279 (Or.inr (slot_ne (Or.inl (hw _ (List.mem_of_getElem? (i := 45) rfl))) (Or.inl (hw _ (List.mem_of_getElem? (i := 54) rfl))) (by decide) (t := (.object "java/lang/String")) (t' := .int) (by decide) (by decide)))).other W282 (Or.inr (slot_ne (Or.inl (hw _ (List.mem_of_getElem? (i := 45) rfl))) (Or.inl (hw _ (List.mem_of_getElem? (i := 56) rfl))) (by decide) (t := (.object "java/lang/String")) (t' := .int) (by decide) (by decide))))
          obtain ⟨T285, X285, e285, st285⟩ := getF X283 hx hZ hown (host := "") (Or.inl (hw _ (List.mem_of_getElem? (i := 44) rfl))) Via.refl e283 F284 (g := (mkF m 92 #[.val (.ref a1), .val (.int (2 : Int32)), .val (.int fd)] [(.ref a1), (.int (2 : Int32))])) rfl rfl (hb hby d10_92)
          refine own_go st285 ?_
          have F286 : Old Z n0 h282 := ((F256.wr W279 H15).wr W282 H15)
          have F287 : Exa Z h282 sx "java/lang/String" := ((F257.wr W279).wr W282)
          have F288 : Fld Z h282 sx "java/lang/String" "value" "[B" (.ref tx) := ((F258.other W279 (Or.inl H16)).other W282 (Or.inl H16))
          have F289 : Fld Z h282 sx "java/lang/String" "coder" "B" (.int (0 : Int32)) := ((F259.other W279 (Or.inl H16)).other W282 (Or.inl H16))
          have F290 : Arv Z h282 tx kx .byte (3 : Int32) [(.int (y0.toInt8.toInt32)), (.int (y1.toInt8.toInt32)), (.int (y2.toInt8.toInt32))] (.int 0) := ((F260.other W279 H17).other W282 H17)
          refine own_callV X285 hx hZ (y := (⟨"java/lang/String", "length", "()I"⟩ : MethodName)) (z := (⟨"java/lang/String", "length", "()I"⟩ : MethodName)) (W := 1) (a := sx) (argsL := []) (rest := [(.int (2 : Int32))]) hown (hw _ (List.mem_of_getElem? (i := 62) rfl)) (hw _ (List.mem_of_getElem? (i := 63) rfl)) (notFace_of_selects (args := #[]) (mvT hZ (hw _ (List.mem_of_getElem? (i := 65) rfl)))) (hw _ (List.mem_of_getElem? (i := 65) rfl)) (hw _ (List.mem_of_getElem? (i := 64) rfl)) (by decide) (own_bk (rm_le l Z a0 hw sx g1 tx kx _ _ _ h282 n0 F286 H7 hg5 F287 F288 F289 F290) hZ (hw _ (List.mem_of_getElem? (i := 66) rfl)) (hw _ (List.mem_of_getElem? (i := 7) rfl)) (by decide) (by decide)) e285 F287 (g := (mkF m 95 #[.val (.ref a1), .val (.int (2 : Int32)), .val (.int fd)] [(.ref sx), (.int (2 : Int32))])) rfl (by rw [hml]; rfl) (lenOf pd_9 rfl) rfl (by show 2 * 0 + _ ≤ _; exact Nat.le_of_eq rfl) (hb hby d10_95) (own_le hc249 (by decide)) (own_le hs249 (by decide)) (fun v291 T291 h291 L291 X291 e291 q291 => ?_)
          obtain ⟨rfl, M291, s291⟩ := q291
          replace e291 : T291.heap = h282 := e291.trans s291
          have N291 := Fr.app N282 M291
          refine own_go (fun t k => XS.icmpNo X291.here hx rfl (hb hby d10_98) rfl (tlt (by decide : (2 : Int32) < (3 : Int32))).2.1 k) ?_
          show own_Run p e below Φ (T291.setTop (mkF m 101 #[.val (.ref a1), .val (.int (2 : Int32)), .val (.int fd)] []))
          refine own_go (fun t k => XS.aloadN X291.here hx rfl (hb hby d10_101) rfl rfl  k) ?_
          obtain ⟨T292, X292, e292, st292⟩ := getF X291 hx hZ hown (host := "") (Or.inl (hw _ (List.mem_of_getElem? (i := 44) rfl))) Via.refl e291 F284 (g := (mkF m 102 #[.val (.ref a1), .val (.int (2 : Int32)), .val (.int fd)] [(.ref a1)])) rfl rfl (hb hby d10_102)
          refine own_go st292 ?_
          refine own_go (fun t k => XS.aloadN X292.here hx rfl (hb hby d10_105) rfl rfl  k) ?_
          obtain ⟨T293, X293, e293, st293⟩ := getF X292 hx hZ hown (host := "") (Or.inl (hw _ (List.mem_of_getElem? (i := 55) rfl))) Via.refl e292 G282 (g := (mkF m 106 #[.val (.ref a1), .val (.int (2 : Int32)), .val (.int fd)] [(.ref a1), (.ref sx)])) rfl rfl (hb hby d10_106)
          refine own_go st293 ?_
          refine own_callV X293 hx hZ (y := (⟨"java/lang/String", "charAt", "(I)C"⟩ : MethodName)) (z := (⟨"java/lang/String", "charAt", "(I)C"⟩ : MethodName)) (W := 0) (a := sx) (argsL := [(.int (2 : Int32))]) (rest := []) hown (hw _ (List.mem_of_getElem? (i := 72) rfl)) (hw _ (List.mem_of_getElem? (i := 73) rfl)) (notFace_of_selects (args := #[]) (mvT hZ (hw _ (List.mem_of_getElem? (i := 75) rfl)))) (hw _ (List.mem_of_getElem? (i := 75) rfl)) (hw _ (List.mem_of_getElem? (i := 74) rfl)) (by decide) (own_bk (rm_ch2 l Z a0 hw sx g1 g3 tx kx _ _ _ h282 n0 F286 H7 hg5 H9 hr F287 F288 F289 F290 hy.2.2) hZ (hw _ (List.mem_of_getElem? (i := 76) rfl)) (hw _ (List.mem_of_getElem? (i := 7) rfl)) (by decide) (by decide)) e293 F287 (g := (mkF m 109 #[.val (.ref a1), .val (.int (2 : Int32)), .val (.int fd)] [(.int (2 : Int32)), (.ref sx)])) rfl (by rw [hml]; rfl) (lenOf pd_0 rfl) rfl (by show 2 * 0 + _ ≤ _; exact Nat.le_of_eq rfl) (hb hby d10_109) (own_le (Nat.add_le_add_right hc249 0) (by decide)) (own_le (Nat.add_le_add_right hs249 0) (by decide)) (fun v294 T294 h294 L294 X294 e294 q294 => ?_)
          obtain ⟨rfl, M294, s294⟩ := q294
          replace e294 : T294.heap = h282 := e294.trans s294
          have N294 := Fr.app N291 M294
          refine own_callS X294 hx hZ (y := (⟨"com/example/profitmine/profitmine/io/Fields", "isBlank", "(C)Z"⟩ : MethodName)) (W := 0) (argsL := [(.int y2)]) (rest := []) hown (hw _ (List.mem_of_getElem? (i := 94) rfl)) (hw _ (List.mem_of_getElem? (i := 95) rfl)) (hw _ (List.mem_of_getElem? (i := 36) rfl)) (hw _ (List.mem_of_getElem? (i := 96) rfl)) (by decide) (own_bk (rm_ib l Z a0 hw y2 h282 n0 ) hZ (hw _ (List.mem_of_getElem? (i := 96) rfl)) (hw _ (List.mem_of_getElem? (i := 36) rfl)) (by decide) (by decide)) e294 (g := (mkF m 112 #[.val (.ref a1), .val (.int (2 : Int32)), .val (.int fd)] [(.int y2)])) rfl (by rw [hml]; rfl) (lenOf pd_14 rfl) rfl (by show 2 * 0 + _ ≤ _; exact Nat.le_of_eq rfl) (hb hby d10_112) (own_le (Nat.add_le_add_right (Nat.add_le_add_right hc249 0) 0) (by decide)) (own_le (Nat.add_le_add_right (Nat.add_le_add_right hs249 0) 0) (by decide)) (fun v295 T295 h295 L295 X295 e295 q295 => ?_)
          obtain ⟨rfl, M295, s295⟩ := q295
          replace e295 : T295.heap = h282 := e295.trans s295
          have N295 := Fr.app N294 M295
          by_cases hc115 : (own_blk y2) = (0 : Int32)
          · refine own_go (fun t k => XS.ifNo X295.here hx rfl (hb hby d10_115) rfl ((if0 _ _).trans (teq hc115).2) k) ?_
            refine own_go (fun t k => XS.aloadN X295.here hx rfl (hb hby d10_118) rfl rfl  k) ?_
            refine own_go (fun t k => XS.dup X295.here hx rfl (hb hby d10_119) rfl rfl k) ?_
            show own_Run p e below Φ (T295.setTop (mkF m 120 #[.val (.ref a1), .val (.int (2 : Int32)), .val (.int fd)] [(.ref a1), (.ref a1)]))
            obtain ⟨T296, X296, e296, st296⟩ := getF X295 hx hZ hown (host := "") (Or.inl (hw _ (List.mem_of_getElem? (i := 55) rfl))) Via.refl e295 G282 (g := (mkF m 120 #[.val (.ref a1), .val (.int (2 : Int32)), .val (.int fd)] [(.ref a1), (.ref a1)])) rfl rfl (hb hby d10_120)
            refine own_go st296 ?_
            refine own_go (fun t k => XS.iconst X296.here hx rfl (hb hby d10_123) k) ?_
            refine own_go (fun t k => XS.iadd X296.here hx rfl (hb hby d10_124) rfl k) ?_
            show own_Run p e below Φ (T296.setTop (mkF m 125 #[.val (.ref a1), .val (.int (2 : Int32)), .val (.int fd)] [(.int ((2 : Int32) + (1 : Int32))), (.ref a1)]))
            rw [show ((2 : Int32) + (1 : Int32)) = (3 : Int32) from by decide]
            show own_Run p e below Φ (T296.setTop (mkF m 125 #[.val (.ref a1), .val (.int (2 : Int32)), .val (.int fd)] [(.int (3 : Int32)), (.ref a1)]))
            have F297 : Exa Z h282 a1 "com/example/profitmine/profitmine/io/Fields" := (F281.wr W282)
            obtain ⟨T298, h298, X298, e298, W298, st298⟩ := putF X296 hx hZ hown (host := "") (Or.inl (hw _ (List.mem_of_getElem? (i := 55) rfl))) Via.refl e296 G282 F297 (Or.inl (hw _ (List.mem_of_getElem? (i := 56) rfl))) (hw _ (List.mem_of_getElem? (i := 35) rfl)) (ty := .int) (by decide) rfl rfl (g := (mkF m 125 #[.val (.ref a1), .val (.int (2 : Int32)), .val (.int fd)] [(.int (3 : Int32)), (.ref a1)])) rfl rfl (hb hby d10_125)
            refine own_go st298 ?_
            have G298 : Fld Z h298 a1 "com/example/profitmine/profitmine/io/Fields" "end" "I" (.int (3 : Int32)) := G282.same W298
            have N298 := Fr.snoc X298 N295 H15
            refine own_go (fun t k => XS.goto X298.here hx rfl (pc0 := 128) (pc' := 87) rfl (hb hby d10_128) (by decide) (by decide) k) ?_
            refine own_go (fun t k => XS.aloadN X298.here hx rfl (hb hby d10_87) rfl rfl  k) ?_
            obtain ⟨T299, X299, e299, st299⟩ := getF X298 hx hZ hown (host := "") (Or.inl (hw _ (List.mem_of_getElem? (i := 55) rfl))) Via.refl e298 G298 (g := (mkF m 88 #[.val (.ref a1), .val (.int (2 : Int32)), .val (.int fd)] [(.ref a1)])) rfl rfl (hb hby d10_88)
            refine own_go st299 ?_
            refine own_go (fun t k => XS.aloadN X299.here hx rfl (hb hby d10_91) rfl rfl  k) ?_
            have F300 : Fld Z h298 a1 "com/example/profitmine/profitmine/io/Fields" "line" "Ljava/lang/String;" (.ref sx) := (F284.other W298 (Or.inr (slot_ne (Or.inl (hw _ (List.mem_of_getElem? (i := 45) rfl))) (Or.inl (hw _ (List.mem_of_getElem? (i := 56) rfl))) (by decide) (t := (.object "java/lang/String")) (t' := .int) (by decide) (by decide))))
            obtain ⟨T301, X301, e301, st301⟩ := getF X299 hx hZ hown (host := "") (Or.inl (hw _ (List.mem_of_getElem? (i := 44) rfl))) Via.refl e299 F300 (g := (mkF m 92 #[.val (.ref a1), .val (.int (2 : Int32)), .val (.int fd)] [(.ref a1), (.int (3 : Int32))])) rfl rfl (hb hby d10_92)
            refine own_go st301 ?_
            have F302 : Old Z n0 h298 := (F286.wr W298 H15)
            have F303 : Exa Z h298 sx "java/lang/String" := (F287.wr W298)
            have F304 : Fld Z h298 sx "java/lang/String" "value" "[B" (.ref tx) := (F288.other W298 (Or.inl H16))
            have F305 : Fld Z h298 sx "java/lang/String" "coder" "B" (.int (0 : Int32)) := (F289.other W298 (Or.inl H16))
            have F306 : Arv Z h298 tx kx .byte (3 : Int32) [(.int (y0.toInt8.toInt32)), (.int (y1.toInt8.toInt32)), (.int (y2.toInt8.toInt32))] (.int 0) := (F290.other W298 H17)
            refine own_callV X301 hx hZ (y := (⟨"java/lang/String", "length", "()I"⟩ : MethodName)) (z := (⟨"java/lang/String", "length", "()I"⟩ : MethodName)) (W := 1) (a := sx) (argsL := []) (rest := [(.int (3 : Int32))]) hown (hw _ (List.mem_of_getElem? (i := 62) rfl)) (hw _ (List.mem_of_getElem? (i := 63) rfl)) (notFace_of_selects (args := #[]) (mvT hZ (hw _ (List.mem_of_getElem? (i := 65) rfl)))) (hw _ (List.mem_of_getElem? (i := 65) rfl)) (hw _ (List.mem_of_getElem? (i := 64) rfl)) (by decide) (own_bk (rm_le l Z a0 hw sx g1 tx kx _ _ _ h298 n0 F302 H7 hg5 F303 F304 F305 F306) hZ (hw _ (List.mem_of_getElem? (i := 66) rfl)) (hw _ (List.mem_of_getElem? (i := 7) rfl)) (by decide) (by decide)) e301 F303 (g := (mkF m 95 #[.val (.ref a1), .val (.int (2 : Int32)), .val (.int fd)] [(.ref sx), (.int (3 : Int32))])) rfl (by rw [hml]; rfl) (lenOf pd_9 rfl) rfl (by show 2 * 0 + _ ≤ _; exact Nat.le_of_eq rfl) (hb hby d10_95) (own_le (Nat.add_le_add_right (Nat.add_le_add_right (Nat.add_le_add_right hc249 0) 0) 0) (by decide)) (own_le (Nat.add_le_add_right (Nat.add_le_add_right (Nat.add_le_add_right hs249 0) 0) 0) (by decide)) (fun v307 T307 h307 L307 X307 e307 q307 => ?_)
            obtain ⟨rfl, M307, s307⟩ := q307
            replace e307 : T307.heap = h298 := e307.trans s307
            have N307 := Fr.app N298 M307
            refine own_go (fun t k => XS.icmpYes X307.here hx rfl (pc0 := 98) (pc' := 131) rfl (hb hby d10_98) rfl (flt (by decide : ¬ ((3 : Int32) < (3 : Int32)))).2.1 (by decide) (by decide) k) ?_
            refine own_go (fun t k => XS.aloadN X307.here hx rfl (hb hby d10_131) rfl rfl  k) ?_
            show own_Run p e below Φ (T307.setTop (mkF m 132 #[.val (.ref a1), .val (.int (2 : Int32)), .val (.int fd)] [(.ref a1)]))
            refine own_go (fun t k => XS.dup X307.here hx rfl (hb hby d10_132) rfl rfl k) ?_
            have F308 : Fld Z h298 a1 "com/example/profitmine/profitmine/io/Fields" "count" "I" (.int cn) := (((F255.other W279 (Or.inr (slot_ne (Or.inl (hw _ (List.mem_of_getElem? (i := 52) rfl))) (Or.inl (hw _ (List.mem_of_getElem? (i := 54) rfl))) (by decide) (t := .int) (t' := .int) (by decide) (by decide)))).other W282 (Or.inr (slot_ne (Or.inl (hw _ (List.mem_of_getElem? (i := 52) rfl))) (Or.inl (hw _ (List.mem_of_getElem? (i := 56) rfl))) (by decide) (t := .int) (t' := .int) (by decide) (by decide)))).other W298 (Or.inr (slot_ne (Or.inl (hw _ (List.mem_of_getElem? (i := 52) rfl))) (Or.inl (hw _ (List.mem_of_getElem? (i := 56) rfl))) (by decide) (t := .int) (t' := .int) (by decide) (by decide))))
            obtain ⟨T309, X309, e309, st309⟩ := getF X307 hx hZ hown (host := "") (Or.inl (hw _ (List.mem_of_getElem? (i := 51) rfl))) Via.refl e307 F308 (g := (mkF m 133 #[.val (.ref a1), .val (.int (2 : Int32)), .val (.int fd)] [(.ref a1), (.ref a1)])) rfl rfl (hb hby d10_133)
            refine own_go st309 ?_
            refine own_go (fun t k => XS.iconst X309.here hx rfl (hb hby d10_136) k) ?_
            refine own_go (fun t k => XS.iadd X309.here hx rfl (hb hby d10_137) rfl k) ?_
            have F310 : Exa Z h298 a1 "com/example/profitmine/profitmine/io/Fields" := (F297.wr W298)
            obtain ⟨T311, h311, X311, e311, W311, st311⟩ := putF X309 hx hZ hown (host := "") (Or.inl (hw _ (List.mem_of_getElem? (i := 51) rfl))) Via.refl e309 F308 F310 (Or.inl (hw _ (List.mem_of_getElem? (i := 52) rfl))) (hw _ (List.mem_of_getElem? (i := 35) rfl)) (ty := .int) (by decide) rfl rfl (g := (mkF m 138 #[.val (.ref a1), .val (.int (2 : Int32)), .val (.int fd)] [(.int (cn + (1 : Int32))), (.ref a1)])) rfl rfl (hb hby d10_138)
            refine own_go st311 ?_
            have G311 : Fld Z h311 a1 "com/example/profitmine/profitmine/io/Fields" "count" "I" (.int (cn + (1 : Int32))) := F308.same W311
            have N311 := Fr.snoc X311 N307 H15
            refine own_go (fun t k => XS.goto X311.here hx rfl (pc0 := 141) (pc' := 166) rfl (hb hby d10_141) (by decide) (by decide) k) ?_
            refine own_go (fun t k => XS.iloadN X311.here hx rfl (hb hby d10_166) rfl  k) ?_
            have F312 : Keep h0 h311 [a1] := ((((F250.wr W279 (Or.inl (List.mem_of_getElem? (i := 0) rfl))).wr W282 (Or.inl (List.mem_of_getElem? (i := 0) rfl))).wr W298 (Or.inl (List.mem_of_getElem? (i := 0) rfl))).wr W311 (Or.inl (List.mem_of_getElem? (i := 0) rfl)))
            have F313 : Fld Z h311 a1 "com/example/profitmine/profitmine/io/Fields" "line" "Ljava/lang/String;" (.ref sx) := (F300.other W311 (Or.inr (slot_ne (Or.inl (hw _ (List.mem_of_getElem? (i := 45) rfl))) (Or.inl (hw _ (List.mem_of_getElem? (i := 52) rfl))) (by decide) (t := (.object "java/lang/String")) (t' := .int) (by decide) (by decide))))
            have F314 : Fld Z h311 a1 "com/example/profitmine/profitmine/io/Fields" "start" "I" (.int (2 : Int32)) := (((G279.other W282 (Or.inr (slot_ne (Or.inl (hw _ (List.mem_of_getElem? (i := 54) rfl))) (Or.inl (hw _ (List.mem_of_getElem? (i := 56) rfl))) (by decide) (t := .int) (t' := .int) (by decide) (by decide)))).other W298 (Or.inr (slot_ne (Or.inl (hw _ (List.mem_of_getElem? (i := 54) rfl))) (Or.inl (hw _ (List.mem_of_getElem? (i := 56) rfl))) (by decide) (t := .int) (t' := .int) (by decide) (by decide)))).other W311 (Or.inr (slot_ne (Or.inl (hw _ (List.mem_of_getElem? (i := 54) rfl))) (Or.inl (hw _ (List.mem_of_getElem? (i := 52) rfl))) (by decide) (t := .int) (t' := .int) (by decide) (by decide))))
            have F315 : Fld Z h311 a1 "com/example/profitmine/profitmine/io/Fields" "end" "I" (.int (3 : Int32)) := (G298.other W311 (Or.inr (slot_ne (Or.inl (hw _ (List.mem_of_getElem? (i := 56) rfl))) (Or.inl (hw _ (List.mem_of_getElem? (i := 52) rfl))) (by decide) (t := .int) (t' := .int) (by decide) (by decide))))
            subst hΦ
            exact own_retN X311 hx (t := .boolean) Bd.returns (by simp) hlk (hb hby d10_167) e311 ⟨⟨_, rfl⟩, N311, F312, F313, ⟨_, _, _, F314, F315, G311, (by decide)⟩⟩ (Nat.le_trans (Nat.add_le_add_right (Nat.add_le_add_right (Nat.add_le_add_right (Nat.add_le_add_right hc249 0) 0) 0) 0) (by decide)) (Nat.le_trans (Nat.add_le_add_right (Nat.add_le_add_right (Nat.add_le_add_right (Nat.add_le_add_right hs249 0) 0) 0) 0) (by decide))
          · refine own_go (fun t k => XS.ifYes X295.here hx rfl (pc0 := 115) (pc' := 131) rfl (hb hby d10_115) rfl ((if0 _ _).trans (feq hc115).2) (by decide) (by decide) k) ?_
            refine own_go (fun t k => XS.aloadN X295.here hx rfl (hb hby d10_131) rfl rfl  k) ?_
            show own_Run p e below Φ (T295.setTop (mkF m 132 #[.val (.ref a1), .val (.int (2 : Int32)), .val (.int fd)] [(.ref a1)]))
            refine own_go (fun t k => XS.dup X295.here hx rfl (hb hby d10_132) rfl rfl k) ?_
            have F316 : Fld Z h282 a1 "com/example/profitmine/profitmine/io/Fields" "count" "I" (.int cn) := ((F255.other W279 (Or.inr (slot_ne (Or.inl (hw _ (List.mem_of_getElem? (i := 52) rfl))) (Or.inl (hw _ (List.mem_of_getElem? (i := 54) rfl))) (by decide) (t := .int) (t' := .int) (by decide) (by decide)))).other W282 (Or.inr (slot_ne (Or.inl (hw _ (List.mem_of_getElem? (i := 52) rfl))) (Or.inl (hw _ (List.mem_of_getElem? (i := 56) rfl))) (by decide) (t := .int) (t' := .int) (by decide) (by decide))))
            obtain ⟨T317, X317, e317, st317⟩ := getF X295 hx hZ hown (host := "") (Or.inl (hw _ (List.mem_of_getElem? (i := 51) rfl))) Via.refl e295 F316 (g := (mkF m 133 #[.val (.ref a1), .val (.int (2 : Int32)), .val (.int fd)] [(.ref a1), (.ref a1)])) rfl rfl (hb hby d10_133)
            refine own_go st317 ?_
            refine own_go (fun t k => XS.iconst X317.here hx rfl (hb hby d10_136) k) ?_
            refine own_go (fun t k => XS.iadd X317.here hx rfl (hb hby d10_137) rfl k) ?_
            have F318 : Exa Z h282 a1 "com/example/profitmine/profitmine/io/Fields" := (F281.wr W282)
            obtain ⟨T319, h319, X319, e319, W319, st319⟩ := putF X317 hx hZ hown (host := "") (Or.inl (hw _ (List.mem_of_getElem? (i := 51) rfl))) Via.refl e317 F316 F318 (Or.inl (hw _ (List.mem_of_getElem? (i := 52) rfl))) (hw _ (List.mem_of_getElem? (i := 35) rfl)) (ty := .int) (by decide) rfl rfl (g := (mkF m 138 #[.val (.ref a1), .val (.int (2 : Int32)), .val (.int fd)] [(.int (cn + (1 : Int32))), (.ref a1)])) rfl rfl (hb hby d10_138)
            refine own_go st319 ?_
            have G319 : Fld Z h319 a1 "com/example/profitmine/profitmine/io/Fields" "count" "I" (.int (cn + (1 : Int32))) := F316.same W319
            have N319 := Fr.snoc X319 N295 H15
            refine own_go (fun t k => XS.goto X319.here hx rfl (pc0 := 141) (pc' := 166) rfl (hb hby d10_141) (by decide) (by decide) k) ?_
            refine own_go (fun t k => XS.iloadN X319.here hx rfl (hb hby d10_166) rfl  k) ?_
            have F320 : Keep h0 h319 [a1] := (((F250.wr W279 (Or.inl (List.mem_of_getElem? (i := 0) rfl))).wr W282 (Or.inl (List.mem_of_getElem? (i := 0) rfl))).wr W319 (Or.inl (List.mem_of_getElem? (i := 0) rfl)))
            have F321 : Fld Z h319 a1 "com/example/profitmine/profitmine/io/Fields" "line" "Ljava/lang/String;" (.ref sx) := (F284.other W319 (Or.inr (slot_ne (Or.inl (hw _ (List.mem_of_getElem? (i := 45) rfl))) (Or.inl (hw _ (List.mem_of_getElem? (i := 52) rfl))) (by decide) (t := (.object "java/lang/String")) (t' := .int) (by decide) (by decide))))
            have F322 : Fld Z h319 a1 "com/example/profitmine/profitmine/io/Fields" "start" "I" (.int (2 : Int32)) := ((G279.other W282 (Or.inr (slot_ne (Or.inl (hw _ (List.mem_of_getElem? (i := 54) rfl))) (Or.inl (hw _ (List.mem_of_getElem? (i := 56) rfl))) (by decide) (t := .int) (t' := .int) (by decide) (by decide)))).other W319 (Or.inr (slot_ne (Or.inl (hw _ (List.mem_of_getElem? (i := 54) rfl))) (Or.inl (hw _ (List.mem_of_getElem? (i := 52) rfl))) (by decide) (t := .int) (t' := .int) (by decide) (by decide))))
            have F323 : Fld Z h319 a1 "com/example/profitmine/profitmine/io/Fields" "end" "I" (.int (2 : Int32)) := (G282.other W319 (Or.inr (slot_ne (Or.inl (hw _ (List.mem_of_getElem? (i := 56) rfl))) (Or.inl (hw _ (List.mem_of_getElem? (i := 52) rfl))) (by decide) (t := .int) (t' := .int) (by decide) (by decide))))
            subst hΦ
            exact own_retN X319 hx (t := .boolean) Bd.returns (by simp) hlk (hb hby d10_167) e319 ⟨⟨_, rfl⟩, N319, F320, F321, ⟨_, _, _, F322, F323, G319, (by decide)⟩⟩ (Nat.le_trans (Nat.add_le_add_right (Nat.add_le_add_right (Nat.add_le_add_right hc249 0) 0) 0) (by decide)) (Nat.le_trans (Nat.add_le_add_right (Nat.add_le_add_right (Nat.add_le_add_right hs249 0) 0) 0) (by decide))
      show own_Run p e below Φ (T2.setTop (mkF m 36 #[.val (.ref a1), .val (.int (2 : Int32)), .unset] []))
      refine own_go (fun t k => XS.iloadN X2.here hx rfl (hb hby d10_36) rfl  k) ?_
      refine own_go (fun t k => XS.aloadN X2.here hx rfl (hb hby d10_37) rfl rfl  k) ?_
      show own_Run p e below Φ (T2.setTop (mkF m 38 #[.val (.ref a1), .val (.int (2 : Int32)), .unset] [(.ref a1), (.int (2 : Int32))]))
      obtain ⟨T324, X324, e324, st324⟩ := getF X2 hx hZ hown (host := "") (Or.inl (hw _ (List.mem_of_getElem? (i := 44) rfl))) Via.refl e2 F5 (g := (mkF m 38 #[.val (.ref a1), .val (.int (2 : Int32)), .unset] [(.ref a1), (.int (2 : Int32))])) rfl rfl (hb hby d10_38)
      refine own_go st324 ?_
      refine own_callV X324 hx hZ (y := (⟨"java/lang/String", "length", "()I"⟩ : MethodName)) (z := (⟨"java/lang/String", "length", "()I"⟩ : MethodName)) (W := 1) (a := sx) (argsL := []) (rest := [(.int (2 : Int32))]) hown (hw _ (List.mem_of_getElem? (i := 62) rfl)) (hw _ (List.mem_of_getElem? (i := 63) rfl)) (notFace_of_selects (args := #[]) (mvT hZ (hw _ (List.mem_of_getElem? (i := 65) rfl)))) (hw _ (List.mem_of_getElem? (i := 65) rfl)) (hw _ (List.mem_of_getElem? (i := 64) rfl)) (by decide) (own_bk (rm_le l Z a0 hw sx g1 tx kx _ _ _ h2 n0 F9 H7 hg5 F10 F11 F12 F13) hZ (hw _ (List.mem_of_getElem? (i := 66) rfl)) (hw _ (List.mem_of_getElem? (i := 7) rfl)) (by decide) (by decide)) e324 F10 (g := (mkF m 41 #[.val (.ref a1), .val (.int (2 : Int32)), .unset] [(.ref sx), (.int (2 : Int32))])) rfl (by rw [hml]; rfl) (lenOf pd_9 rfl) rfl (by show 2 * 0 + _ ≤ _; exact Nat.le_of_eq rfl) (hb hby d10_41) (own_le hc2 (by decide)) (own_le hs2 (by decide)) (fun v325 T325 h325 L325 X325 e325 q325 => ?_)
      obtain ⟨rfl, M325, s325⟩ := q325
      replace e325 : T325.heap = h2 := e325.trans s325
      have N325 := Fr.app N2 M325
      refine own_go (fun t k => XS.icmpNo X325.here hx rfl (hb hby d10_44) rfl (tlt (by decide : (2 : Int32) < (3 : Int32))).2.1 k) ?_
      refine own_go (fun t k => XS.aloadN X325.here hx rfl (hb hby d10_47) rfl rfl  k) ?_
      obtain ⟨T326, X326, e326, st326⟩ := getF X325 hx hZ hown (host := "") (Or.inl (hw _ (List.mem_of_getElem? (i := 51) rfl))) Via.refl e325 F8 (g := (mkF m 48 #[.val (.ref a1), .val (.int (2 : Int32)), .unset] [(.ref a1)])) rfl rfl (hb hby d10_48)
      refine own_go st326 ?_
      by_cases hc51 : (0 : Int32) < cn
      · refine own_go (fun t k => XS.ifYes X326.here hx rfl (pc0 := 51) (pc' := 67) rfl (hb hby d10_51) rfl ((if0 _ _).trans (tlt hc51).2.2.1) (by decide) (by decide) k) ?_
        refine own_go (fun t k => XS.iconst X326.here hx rfl (hb hby d10_67) k) ?_
        refine own_go (fun t k => XS.goto X326.here hx rfl (pc0 := 68) (pc' := 72) rfl (hb hby d10_68) (by decide) (by decide) k) ?_
        exact J72_248 (1 : Int32) T326 h2 _ _ _ X326 e326 N325 (Nat.add_le_add_right hc2 0) (Nat.add_le_add_right hs2 0) F3 F4 F5 F6 F7 F8 F9 F10 F11 F12 F13
      · refine own_go (fun t k => XS.ifNo X326.here hx rfl (hb hby d10_51) rfl ((if0 _ _).trans (flt hc51).2.2.1) k) ?_
        refine own_go (fun t k => XS.aloadN X326.here hx rfl (hb hby d10_54) rfl rfl  k) ?_
        show own_Run p e below Φ (T326.setTop (mkF m 55 #[.val (.ref a1), .val (.int (2 : Int32)), .unset] [(.ref a1)]))
        obtain ⟨T327, X327, e327, st327⟩ := getF X326 hx hZ hown (host := "") (Or.inl (hw _ (List.mem_of_getElem? (i := 44) rfl))) Via.refl e326 F5 (g := (mkF m 55 #[.val (.ref a1), .val (.int (2 : Int32)), .unset] [(.ref a1)])) rfl rfl (hb hby d10_55)
        refine own_go st327 ?_
        refine own_go (fun t k => XS.iloadN X327.here hx rfl (hb hby d10_58) rfl  k) ?_
        refine own_callV X327 hx hZ (y := (⟨"java/lang/String", "charAt", "(I)C"⟩ : MethodName)) (z := (⟨"java/lang/String", "charAt", "(I)C"⟩ : MethodName)) (W := 0) (a := sx) (argsL := [(.int (2 : Int32))]) (rest := []) hown (hw _ (List.mem_of_getElem? (i := 72) rfl)) (hw _ (List.mem_of_getElem? (i := 73) rfl)) (notFace_of_selects (args := #[]) (mvT hZ (hw _ (List.mem_of_getElem? (i := 75) rfl)))) (hw _ (List.mem_of_getElem? (i := 75) rfl)) (hw _ (List.mem_of_getElem? (i := 74) rfl)) (by decide) (own_bk (rm_ch2 l Z a0 hw sx g1 g3 tx kx _ _ _ h2 n0 F9 H7 hg5 H9 hr F10 F11 F12 F13 hy.2.2) hZ (hw _ (List.mem_of_getElem? (i := 76) rfl)) (hw _ (List.mem_of_getElem? (i := 7) rfl)) (by decide) (by decide)) e327 F10 (g := (mkF m 59 #[.val (.ref a1), .val (.int (2 : Int32)), .unset] [(.int (2 : Int32)), (.ref sx)])) rfl (by rw [hml]; rfl) (lenOf pd_0 rfl) rfl (by show 2 * 0 + _ ≤ _; exact Nat.le_of_eq rfl) (hb hby d10_59) (own_le (Nat.add_le_add_right hc2 0) (by decide)) (own_le (Nat.add_le_add_right hs2 0) (by decide)) (fun v328 T328 h328 L328 X328 e328 q328 => ?_)
        obtain ⟨rfl, M328, s328⟩ := q328
        replace e328 : T328.heap = h2 := e328.trans s328
        have N328 := Fr.app N325 M328
        refine own_go (fun t k => XS.bipush X328.here hx rfl (hb hby d10_62) k) ?_
        by_cases hc64 : y2 = (35 : Int32)
        · refine own_go (fun t k => XS.icmpYes X328.here hx rfl (pc0 := 64) (pc' := 71) rfl (hb hby d10_64) rfl (teq hc64).1 (by decide) (by decide) k) ?_
          refine own_go (fun t k => XS.iconst X328.here hx rfl (hb hby d10_71) k) ?_
          exact J72_248 (0 : Int32) T328 h2 _ _ _ X328 e328 N328 (Nat.add_le_add_right (Nat.add_le_add_right hc2 0) 0) (Nat.add_le_add_right (Nat.add_le_add_right hs2 0) 0) F3 F4 F5 F6 F7 F8 F9 F10 F11 F12 F13
        · refine own_go (fun t k => XS.icmpNo X328.here hx rfl (hb hby d10_64) rfl (feq hc64).1 k) ?_
          refine own_go (fun t k => XS.iconst X328.here hx rfl (hb hby d10_67) k) ?_
          refine own_go (fun t k => XS.goto X328.here hx rfl (pc0 := 68) (pc' := 72) rfl (hb hby d10_68) (by decide) (by decide) k) ?_
          exact J72_248 (1 : Int32) T328 h2 _ _ _ X328 e328 N328 (Nat.add_le_add_right (Nat.add_le_add_right hc2 0) 0) (Nat.add_le_add_right (Nat.add_le_add_right hs2 0) 0) F3 F4 F5 F6 F7 F8 F9 F10 F11 F12 F13
    · skip
      have J72_329 : ∀ (fd : Int32) (T330 : State) (h330 : Heap) (l330 : List Loc) (c330 z330 : Nat), (Stand p l e ({ frames := 4, cells := 0, slots := 0, locals := 53 } : Room) s m #[(.ref a1)] below meth c T330 l330 c330 z330) → (T330.heap = h330) → (Fr n0 l330) → (c330 ≤ 0) → (z330 ≤ 0) → (Keep h0 h330 [a1]) → (Exa Z h330 a1 "com/example/profitmine/profitmine/io/Fields") → (Fld Z h330 a1 "com/example/profitmine/profitmine/io/Fields" "line" "Ljava/lang/String;" (.ref sx)) → (Fld Z h330 a1 "com/example/profitmine/profitmine/io/Fields" "start" "I" (.int sn)) → (Fld Z h330 a1 "com/example/profitmine/profitmine/io/Fields" "end" "I" (.int en)) → (Fld Z h330 a1 "com/example/profitmine/profitmine/io/Fields" "count" "I" (.int cn)) → (Old Z n0 h330) → (Exa Z h330 sx "java/lang/String") → (Fld Z h330 sx "java/lang/String" "value" "[B" (.ref tx)) → (Fld Z h330 sx "java/lang/String" "coder" "B" (.int (0 : Int32))) → (Arv Z h330 tx kx .byte (3 : Int32) [(.int (y0.toInt8.toInt32)), (.int (y1.toInt8.toInt32)), (.int (y2.toInt8.toInt32))] (.int 0)) → own_Run p e below Φ (T330.setTop (mkF m 72 #[.val (.ref a1), .val (.int (3 : Int32)), .unset] [(.int fd)])) := by
        intro fd T330 h330 l330 c330 z330 X330 e330 N330 hc330 hs330 F331 F332 F333 F334 F335 F336 F337 F338 F339 F340 F341
        show own_Run p e below Φ (T330.setTop (mkF m 72 #[.val (.ref a1), .val (.int (3 : Int32)), .unset] [(.int fd)]))
        refine own_go (fun t k => XS.istoreN X330.here hx rfl (hb hby d10_72) rfl (l' := #[.val (.ref a1), .val (.int (3 : Int32)), .val (.int fd)]) rfl k) ?_
        refine own_go (fun t k => XS.iloadN X330.here hx rfl (hb hby d10_73) rfl  k) ?_
        by_cases hc74 : fd = (0 : Int32)
        · refine own_go (fun t k => XS.ifYes X330.here hx rfl (pc0 := 74) (pc' := 144) rfl (hb hby d10_74) rfl ((if0 _ _).trans (teq hc74).1) (by decide) (by decide) k) ?_
          refine own_go (fun t k => XS.aloadN X330.here hx rfl (hb hby d10_144) rfl rfl  k) ?_
          refine own_go (fun t k => XS.aloadN X330.here hx rfl (hb hby d10_145) rfl rfl  k) ?_
          obtain ⟨T342, X342, e342, st342⟩ := getF X330 hx hZ hown (host := "") (Or.inl (hw _ (List.mem_of_getElem? (i := 44) rfl))) Via.refl e330 F333 (g := (mkF m 146 #[.val (.ref a1), .val (.int (3 : Int32)), .val (.int fd)] [(.ref a1), (.ref a1)])) rfl rfl (hb hby d10_146)
          refine own_go st342 ?_
          refine own_callV X342 hx hZ (y := (⟨"java/lang/String", "length", "()I"⟩ : MethodName)) (z := (⟨"java/lang/String", "length", "()I"⟩ : MethodName)) (W := 1) (a := sx) (argsL := []) (rest := [(.ref a1)]) hown (hw _ (List.mem_of_getElem? (i := 62) rfl)) (hw _ (List.mem_of_getElem? (i := 63) rfl)) (notFace_of_selects (args := #[]) (mvT hZ (hw _ (List.mem_of_getElem? (i := 65) rfl)))) (hw _ (List.mem_of_getElem? (i := 65) rfl)) (hw _ (List.mem_of_getElem? (i := 64) rfl)) (by decide) (own_bk (rm_le l Z a0 hw sx g1 tx kx _ _ _ h330 n0 F337 H7 hg5 F338 F339 F340 F341) hZ (hw _ (List.mem_of_getElem? (i := 66) rfl)) (hw _ (List.mem_of_getElem? (i := 7) rfl)) (by decide) (by decide)) e342 F338 (g := (mkF m 149 #[.val (.ref a1), .val (.int (3 : Int32)), .val (.int fd)] [(.ref sx), (.ref a1)])) rfl (by rw [hml]; rfl) (lenOf pd_9 rfl) rfl (by show 2 * 0 + _ ≤ _; exact Nat.le_of_eq rfl) (hb hby d10_149) (own_le hc330 (by decide)) (own_le hs330 (by decide)) (fun v343 T343 h343 L343 X343 e343 q343 => ?_)
          obtain ⟨rfl, M343, s343⟩ := q343
          replace e343 : T343.heap = h330 := e343.trans s343
          have N343 := Fr.app N330 M343
          obtain ⟨T344, h344, X344, e344, W344, st344⟩ := putF X343 hx hZ hown (host := "") (Or.inl (hw _ (List.mem_of_getElem? (i := 53) rfl))) Via.refl e343 F334 F332 (Or.inl (hw _ (List.mem_of_getElem? (i := 54) rfl))) (hw _ (List.mem_of_getElem? (i := 35) rfl)) (ty := .int) (by decide) rfl rfl (g := (mkF m 152 #[.val (.ref a1), .val (.int (3 : Int32)), .val (.int fd)] [(.int (3 : Int32)), (.ref a1)])) rfl rfl (hb hby d10_152)
          refine own_go st344 ?_
          have G344 : Fld Z h344 a1 "com/example/profitmine/profitmine/io/Fields" "start" "I" (.int (3 : Int32)) := F334.same W344
          have N344 := Fr.snoc X344 N343 H15
          refine own_go (fun t k => XS.aloadN X344.here hx rfl (hb hby d10_155) rfl rfl  k) ?_
          show own_Run p e below Φ (T344.setTop (mkF m 156 #[.val (.ref a1), .val (.int (3 : Int32)), .val (.int fd)] [(.ref a1)]))
          refine own_go (fun t k => XS.aloadN X344.here hx rfl (hb hby d10_156) rfl rfl  k) ?_
          have F345 : Fld Z h344 a1 "com/example/profitmine/profitmine/io/Fields" "line" "Ljava/lang/String;" (.ref sx) := (F333.other W344 (Or.inr (slot_ne (Or.inl (hw _ (List.mem_of_getElem? (i := 45) rfl))) (Or.inl (hw _ (List.mem_of_getElem? (i := 54) rfl))) (by decide) (t := (.object "java/lang/String")) (t' := .int) (by decide) (by decide))))
          obtain ⟨T346, X346, e346, st346⟩ := getF X344 hx hZ hown (host := "") (Or.inl (hw _ (List.mem_of_getElem? (i := 44) rfl))) Via.refl e344 F345 (g := (mkF m 157 #[.val (.ref a1), .val (.int (3 : Int32)), .val (.int fd)] [(.ref a1), (.ref a1)])) rfl rfl (hb hby d10_157)
          refine own_go st346 ?_
          have F347 : Old Z n0 h344 := (F337.wr W344 H15)
          have F348 : Exa Z h344 sx "java/lang/String" := (F338.wr W344)
          have F349 : Fld Z h344 sx "java/lang/String" "value" "[B" (.ref tx) := (F339.other W344 (Or.inl H16))
          have F350 : Fld Z h344 sx "java/lang/String" "coder" "B" (.int (0 : Int32)) := (F340.other W344 (Or.inl H16))
          have F351 : Arv Z h344 tx kx .byte (3 : Int32) [(.int (y0.toInt8.toInt32)), (.int (y1.toInt8.toInt32)), (.int (y2.toInt8.toInt32))] (.int 0) := (F341.other W344 H17)
          refine own_callV X346 hx hZ (y := (⟨"java/lang/String", "length", "()I"⟩ : MethodName)) (z := (⟨"java/lang/String", "length", "()I"⟩ : MethodName)) (W := 1) (a := sx) (argsL := []) (rest := [(.ref a1)]) hown (hw _ (List.mem_of_getElem? (i := 62) rfl)) (hw _ (List.mem_of_getElem? (i := 63) rfl)) (notFace_of_selects (args := #[]) (mvT hZ (hw _ (List.mem_of_getElem? (i := 65) rfl)))) (hw _ (List.mem_of_getElem? (i := 65) rfl)) (hw _ (List.mem_of_getElem? (i := 64) rfl)) (by decide) (own_bk (rm_le l Z a0 hw sx g1 tx kx _ _ _ h344 n0 F347 H7 hg5 F348 F349 F350 F351) hZ (hw _ (List.mem_of_getElem? (i := 66) rfl)) (hw _ (List.mem_of_getElem? (i := 7) rfl)) (by decide) (by decide)) e346 F348 (g := (mkF m 160 #[.val (.ref a1), .val (.int (3 : Int32)), .val (.int fd)] [(.ref sx), (.ref a1)])) rfl (by rw [hml]; rfl) (lenOf pd_9 rfl) rfl (by show 2 * 0 + _ ≤ _; exact Nat.le_of_eq rfl) (hb hby d10_160) (own_le (Nat.add_le_add_right hc330 0) (by decide)) (own_le (Nat.add_le_add_right hs330 0) (by decide)) (fun v352 T352 h352 L352 X352 e352 q352 => ?_)
          obtain ⟨rfl, M352, s352⟩ := q352
          replace e352 : T352.heap = h344 := e352.trans s352
          have N352 := Fr.app N344 M352
          have F353 : Fld Z h344 a1 "com/example/profitmine/profitmine/io/Fields" "end" "I" (.int en) := (F335.other W344 (Or.inr (slot_ne (Or.inl (hw _ (List.mem_of_getElem? (i := 56) rfl))) (Or.inl (hw _ (List.mem_of_getElem? (i := 54) rfl))) (by decide) (t := .int) (t' := .int) (by decide) (by decide))))
          have F354 : Exa Z h344 a1 "com/example/profitmine/profitmine/io/Fields" := (F332.wr W344)
          obtain ⟨T355, h355, X355, e355, W355, st355⟩ := putF X352 hx hZ hown (host := "") (Or.inl (hw _ (List.mem_of_getElem? (i := 55) rfl))) Via.refl e352 F353 F354 (Or.inl (hw _ (List.mem_of_getElem? (i := 56) rfl))) (hw _ (List.mem_of_getElem? (i := 35) rfl)) (ty := .int) (by decide) rfl rfl (g := (mkF m 163 #[.val (.ref a1), .val (.int (3 : Int32)), .val (.int fd)] [(.int (3 : Int32)), (.ref a1)])) rfl rfl (hb hby d10_163)
          refine own_go st355 ?_
          have G355 : Fld Z h355 a1 "com/example/profitmine/profitmine/io/Fields" "end" "I" (.int (3 : Int32)) := F353.same W355
          have N355 := Fr.snoc X355 N352 H15
          refine own_go (fun t k => XS.iloadN X355.here hx rfl (hb hby d10_166) rfl  k) ?_
          have F356 : Keep h0 h355 [a1] := ((F331.wr W344 (Or.inl (List.mem_of_getElem? (i := 0) rfl))).wr W355 (Or.inl (List.mem_of_getElem? (i := 0) rfl)))
          have F357 : Fld Z h355 a1 "com/example/profitmine/profitmine/io/Fields" "line" "Ljava/lang/String;" (.ref sx) := (F345.other W355 (Or.inr (slot_ne (Or.inl (hw _ (List.mem_of_getElem? (i := 45) rfl))) (Or.inl (hw _ (List.mem_of_getElem? (i := 56) rfl))) (by decide) (t := (.object "java/lang/String")) (t' := .int) (by decide) (by decide))))
          have F358 : Fld Z h355 a1 "com/example/profitmine/profitmine/io/Fields" "start" "I" (.int (3 : Int32)) := (G344.other W355 (Or.inr (slot_ne (Or.inl (hw _ (List.mem_of_getElem? (i := 54) rfl))) (Or.inl (hw _ (List.mem_of_getElem? (i := 56) rfl))) (by decide) (t := .int) (t' := .int) (by decide) (by decide))))
          have F359 : Fld Z h355 a1 "com/example/profitmine/profitmine/io/Fields" "count" "I" (.int cn) := ((F336.other W344 (Or.inr (slot_ne (Or.inl (hw _ (List.mem_of_getElem? (i := 52) rfl))) (Or.inl (hw _ (List.mem_of_getElem? (i := 54) rfl))) (by decide) (t := .int) (t' := .int) (by decide) (by decide)))).other W355 (Or.inr (slot_ne (Or.inl (hw _ (List.mem_of_getElem? (i := 52) rfl))) (Or.inl (hw _ (List.mem_of_getElem? (i := 56) rfl))) (by decide) (t := .int) (t' := .int) (by decide) (by decide))))
          subst hΦ
          exact own_retN X355 hx (t := .boolean) Bd.returns (by simp) hlk (hb hby d10_167) e355 ⟨⟨_, rfl⟩, N355, F356, F357, ⟨_, _, _, F358, G355, F359, (by decide)⟩⟩ (Nat.le_trans (Nat.add_le_add_right (Nat.add_le_add_right hc330 0) 0) (by decide)) (Nat.le_trans (Nat.add_le_add_right (Nat.add_le_add_right hs330 0) 0) (by decide))
        · refine own_go (fun t k => XS.ifNo X330.here hx rfl (hb hby d10_74) rfl ((if0 _ _).trans (feq hc74).1) k) ?_
          refine own_go (fun t k => XS.aloadN X330.here hx rfl (hb hby d10_77) rfl rfl  k) ?_
          refine own_go (fun t k => XS.iloadN X330.here hx rfl (hb hby d10_78) rfl  k) ?_
          obtain ⟨T360, h360, X360, e360, W360, st360⟩ := putF X330 hx hZ hown (host := "") (Or.inl (hw _ (List.mem_of_getElem? (i := 53) rfl))) Via.refl e330 F334 F332 (Or.inl (hw _ (List.mem_of_getElem? (i := 54) rfl))) (hw _ (List.mem_of_getElem? (i := 35) rfl)) (ty := .int) (by decide) rfl rfl (g := (mkF m 79 #[.val (.ref a1), .val (.int (3 : Int32)), .val (.int fd)] [(.int (3 : Int32)), (.ref a1)])) rfl rfl (hb hby d10_79)
          refine own_go st360 ?_
          have G360 : Fld Z h360 a1 "com/example/profitmine/profitmine/io/Fields" "start" "I" (.int (3 : Int32)) := F334.same W360
          have N360 := Fr.snoc X360 N330 H15
          show own_Run p e below Φ (T360.setTop (mkF m 82 #[.val (.ref a1), .val (.int (3 : Int32)), .val (.int fd)] []))
          refine own_go (fun t k => XS.aloadN X360.here hx rfl (hb hby d10_82) rfl rfl  k) ?_
          refine own_go (fun t k => XS.iloadN X360.here hx rfl (hb hby d10_83) rfl  k) ?_
          have F361 : Fld Z h360 a1 "com/example/profitmine/profitmine/io/Fields" "end" "I" (.int en) := (F335.other W360 (Or.inr (slot_ne (Or.inl (hw _ (List.mem_of_getElem? (i := 56) rfl))) (Or.inl (hw _ (List.mem_of_getElem? (i := 54) rfl))) (by decide) (t := .int) (t' := .int) (by decide) (by decide))))
          have F362 : Exa Z h360 a1 "com/example/profitmine/profitmine/io/Fields" := (F332.wr W360)
          obtain ⟨T363, h363, X363, e363, W363, st363⟩ := putF X360 hx hZ hown (host := "") (Or.inl (hw _ (List.mem_of_getElem? (i := 55) rfl))) Via.refl e360 F361 F362 (Or.inl (hw _ (List.mem_of_getElem? (i := 56) rfl))) (hw _ (List.mem_of_getElem? (i := 35) rfl)) (ty := .int) (by decide) rfl rfl (g := (mkF m 84 #[.val (.ref a1), .val (.int (3 : Int32)), .val (.int fd)] [(.int (3 : Int32)), (.ref a1)])) rfl rfl (hb hby d10_84)
          refine own_go st363 ?_
          have G363 : Fld Z h363 a1 "com/example/profitmine/profitmine/io/Fields" "end" "I" (.int (3 : Int32)) := F361.same W363
          have N363 := Fr.snoc X363 N360 H15
          refine own_go (fun t k => XS.aloadN X363.here hx rfl (hb hby d10_87) rfl rfl  k) ?_
          obtain ⟨T364, X364, e364, st364⟩ := getF X363 hx hZ hown (host := "") (Or.inl (hw _ (List.mem_of_getElem? (i := 55) rfl))) Via.refl e363 G363 (g := (mkF m 88 #[.val (.ref a1), .val (.int (3 : Int32)), .val (.int fd)] [(.ref a1)])) rfl rfl (hb hby d10_88)
          refine own_go st364 ?_
          refine own_go (fun t k => XS.aloadN X364.here hx rfl (hb hby d10_91) rfl rfl  k) ?_
          have F365 : Fld Z h363 a1 "com/example/profitmine/profitmine/io/Fields" "line" "Ljava/lang/String;" (.ref sx) := ((F333.other W360 (Or.inr (slot_ne (Or.inl (hw _ (List.mem_of_getElem? (i := 45) rfl))) (Or.inl (hw _ (List.mem_of_getElem? (i := 54) rfl))) (by decide) (t := (.object "java/lang/String")) (t' := .int) (by decide) (by decide)))).other W363 (Or.inr (slot_ne (Or.inl (hw _ (List.mem_of_getElem? (i := 45) rfl))) (Or.inl (hw _ (List.mem_of_getElem? (i := 56) rfl))) (by decide) (t := (.object "java/lang/String")) (t' := .int) (by decide) (by decide))))
          obtain ⟨T366, X366, e366, st366⟩ := getF X364 hx hZ hown (host := "") (Or.inl (hw _ (List.mem_of_getElem? (i := 44) rfl))) Via.refl e364 F365 (g := (mkF m 92 #[.val (.ref a1), .val (.int (3 : Int32)), .val (.int fd)] [(.ref a1), (.int (3 : Int32))])) rfl rfl (hb hby d10_92)
          refine own_go st366 ?_
          have F367 : Old Z n0 h363 := ((F337.wr W360 H15).wr W363 H15)
          have F368 : Exa Z h363 sx "java/lang/String" := ((F338.wr W360).wr W363)
          have F369 : Fld Z h363 sx "java/lang/String" "value" "[B" (.ref tx) := ((F339.other W360 (Or.inl H16)).other W363 (Or.inl H16))
          have F370 : Fld Z h363 sx "java/lang/String" "coder" "B" (.int (0 : Int32)) := ((F340.other W360 (Or.inl H16)).other W363 (Or.inl H16))
          have F371 : Arv Z h363 tx kx .byte (3 : Int32) [(.int (y0.toInt8.toInt32)), (.int (y1.toInt8.toInt32)), (.int (y2.toInt8.toInt32))] (.int 0) := ((F341.other W360 H17).other W363 H17)
          refine own_callV X366 hx hZ (y := (⟨"java/lang/String", "length", "()I"⟩ : MethodName)) (z := (⟨"java/lang/String", "length", "()I"⟩ : MethodName)) (W := 1) (a := sx) (argsL := []) (rest := [(.int (3 : Int32))]) hown (hw _ (List.mem_of_getElem? (i := 62) rfl)) (hw _ (List.mem_of_getElem? (i := 63) rfl)) (notFace_of_selects (args := #[]) (mvT hZ (hw _ (List.mem_of_getElem? (i := 65) rfl)))) (hw _ (List.mem_of_getElem? (i := 65) rfl)) (hw _ (List.mem_of_getElem? (i := 64) rfl)) (by decide) (own_bk (rm_le l Z a0 hw sx g1 tx kx _ _ _ h363 n0 F367 H7 hg5 F368 F369 F370 F371) hZ (hw _ (List.mem_of_getElem? (i := 66) rfl)) (hw _ (List.mem_of_getElem? (i := 7) rfl)) (by decide) (by decide)) e366 F368 (g := (mkF m 95 #[.val (.ref a1), .val (.int (3 : Int32)), .val (.int fd)] [(.ref sx), (.int (3 : Int32))])) rfl (by rw [hml]; rfl) (lenOf pd_9 rfl) rfl (by show 2 * 0 + _ ≤ _; exact Nat.le_of_eq rfl) (hb hby d10_95) (own_le hc330 (by decide)) (own_le hs330 (by decide)) (fun v372 T372 h372 L372 X372 e372 q372 => ?_)
          obtain ⟨rfl, M372, s372⟩ := q372
          replace e372 : T372.heap = h363 := e372.trans s372
          have N372 := Fr.app N363 M372
          refine own_go (fun t k => XS.icmpYes X372.here hx rfl (pc0 := 98) (pc' := 131) rfl (hb hby d10_98) rfl (flt (by decide : ¬ ((3 : Int32) < (3 : Int32)))).2.1 (by decide) (by decide) k) ?_
          show own_Run p e below Φ (T372.setTop (mkF m 131 #[.val (.ref a1), .val (.int (3 : Int32)), .val (.int fd)] []))
          refine own_go (fun t k => XS.aloadN X372.here hx rfl (hb hby d10_131) rfl rfl  k) ?_
          refine own_go (fun t k => XS.dup X372.here hx rfl (hb hby d10_132) rfl rfl k) ?_
          have F373 : Fld Z h363 a1 "com/example/profitmine/profitmine/io/Fields" "count" "I" (.int cn) := ((F336.other W360 (Or.inr (slot_ne (Or.inl (hw _ (List.mem_of_getElem? (i := 52) rfl))) (Or.inl (hw _ (List.mem_of_getElem? (i := 54) rfl))) (by decide) (t := .int) (t' := .int) (by decide) (by decide)))).other W363 (Or.inr (slot_ne (Or.inl (hw _ (List.mem_of_getElem? (i := 52) rfl))) (Or.inl (hw _ (List.mem_of_getElem? (i := 56) rfl))) (by decide) (t := .int) (t' := .int) (by decide) (by decide))))
          obtain ⟨T374, X374, e374, st374⟩ := getF X372 hx hZ hown (host := "") (Or.inl (hw _ (List.mem_of_getElem? (i := 51) rfl))) Via.refl e372 F373 (g := (mkF m 133 #[.val (.ref a1), .val (.int (3 : Int32)), .val (.int fd)] [(.ref a1), (.ref a1)])) rfl rfl (hb hby d10_133)
          refine own_go st374 ?_
          refine own_go (fun t k => XS.iconst X374.here hx rfl (hb hby d10_136) k) ?_
          refine own_go (fun t k => XS.iadd X374.here hx rfl (hb hby d10_137) rfl k) ?_
          have F375 : Exa Z h363 a1 "com/example/profitmine/profitmine/io/Fields" := (F362.wr W363)
          obtain ⟨T376, h376, X376, e376, W376, st376⟩ := putF X374 hx hZ hown (host := "") (Or.inl (hw _ (List.mem_of_getElem? (i := 51) rfl))) Via.refl e374 F373 F375 (Or.inl (hw _ (List.mem_of_getElem? (i := 52) rfl))) (hw _ (List.mem_of_getElem? (i := 35) rfl)) (ty := .int) (by decide) rfl rfl (g := (mkF m 138 #[.val (.ref a1), .val (.int (3 : Int32)), .val (.int fd)] [(.int (cn + (1 : Int32))), (.ref a1)])) rfl rfl (hb hby d10_138)
          refine own_go st376 ?_
          have G376 : Fld Z h376 a1 "com/example/profitmine/profitmine/io/Fields" "count" "I" (.int (cn + (1 : Int32))) := F373.same W376
          have N376 := Fr.snoc X376 N372 H15
          refine own_go (fun t k => XS.goto X376.here hx rfl (pc0 := 141) (pc' := 166) rfl (hb hby d10_141) (by decide) (by decide) k) ?_
          refine own_go (fun t k => XS.iloadN X376.here hx rfl (hb hby d10_166) rfl  k) ?_
          have F377 : Keep h0 h376 [a1] := (((F331.wr W360 (Or.inl (List.mem_of_getElem? (i := 0) rfl))).wr W363 (Or.inl (List.mem_of_getElem? (i := 0) rfl))).wr W376 (Or.inl (List.mem_of_getElem? (i := 0) rfl)))
          have F378 : Fld Z h376 a1 "com/example/profitmine/profitmine/io/Fields" "line" "Ljava/lang/String;" (.ref sx) := (F365.other W376 (Or.inr (slot_ne (Or.inl (hw _ (List.mem_of_getElem? (i := 45) rfl))) (Or.inl (hw _ (List.mem_of_getElem? (i := 52) rfl))) (by decide) (t := (.object "java/lang/String")) (t' := .int) (by decide) (by decide))))
          have F379 : Fld Z h376 a1 "com/example/profitmine/profitmine/io/Fields" "start" "I" (.int (3 : Int32)) := ((G360.other W363 (Or.inr (slot_ne (Or.inl (hw _ (List.mem_of_getElem? (i := 54) rfl))) (Or.inl (hw _ (List.mem_of_getElem? (i := 56) rfl))) (by decide) (t := .int) (t' := .int) (by decide) (by decide)))).other W376 (Or.inr (slot_ne (Or.inl (hw _ (List.mem_of_getElem? (i := 54) rfl))) (Or.inl (hw _ (List.mem_of_getElem? (i := 52) rfl))) (by decide) (t := .int) (t' := .int) (by decide) (by decide))))
          have F380 : Fld Z h376 a1 "com/example/profitmine/profitmine/io/Fields" "end" "I" (.int (3 : Int32)) := (G363.other W376 (Or.inr (slot_ne (Or.inl (hw _ (List.mem_of_getElem? (i := 56) rfl))) (Or.inl (hw _ (List.mem_of_getElem? (i := 52) rfl))) (by decide) (t := .int) (t' := .int) (by decide) (by decide))))
          subst hΦ
          exact own_retN X376 hx (t := .boolean) Bd.returns (by simp) hlk (hb hby d10_167) e376 ⟨⟨_, rfl⟩, N376, F377, F378, ⟨_, _, _, F379, F380, G376, (by decide)⟩⟩ (Nat.le_trans (Nat.add_le_add_right hc330 0) (by decide)) (Nat.le_trans (Nat.add_le_add_right hs330 0) (by decide))
      show own_Run p e below Φ (T2.setTop (mkF m 36 #[.val (.ref a1), .val (.int (3 : Int32)), .unset] []))
      refine own_go (fun t k => XS.iloadN X2.here hx rfl (hb hby d10_36) rfl  k) ?_
      show own_Run p e below Φ (T2.setTop (mkF m 37 #[.val (.ref a1), .val (.int (3 : Int32)), .unset] [(.int (3 : Int32))]))
      refine own_go (fun t k => XS.aloadN X2.here hx rfl (hb hby d10_37) rfl rfl  k) ?_
      obtain ⟨T381, X381, e381, st381⟩ := getF X2 hx hZ hown (host := "") (Or.inl (hw _ (List.mem_of_getElem? (i := 44) rfl))) Via.refl e2 F5 (g := (mkF m 38 #[.val (.ref a1), .val (.int (3 : Int32)), .unset] [(.ref a1), (.int (3 : Int32))])) rfl rfl (hb hby d10_38)
      refine own_go st381 ?_
      refine own_callV X381 hx hZ (y := (⟨"java/lang/String", "length", "()I"⟩ : MethodName)) (z := (⟨"java/lang/String", "length", "()I"⟩ : MethodName)) (W := 1) (a := sx) (argsL := []) (rest := [(.int (3 : Int32))]) hown (hw _ (List.mem_of_getElem? (i := 62) rfl)) (hw _ (List.mem_of_getElem? (i := 63) rfl)) (notFace_of_selects (args := #[]) (mvT hZ (hw _ (List.mem_of_getElem? (i := 65) rfl)))) (hw _ (List.mem_of_getElem? (i := 65) rfl)) (hw _ (List.mem_of_getElem? (i := 64) rfl)) (by decide) (own_bk (rm_le l Z a0 hw sx g1 tx kx _ _ _ h2 n0 F9 H7 hg5 F10 F11 F12 F13) hZ (hw _ (List.mem_of_getElem? (i := 66) rfl)) (hw _ (List.mem_of_getElem? (i := 7) rfl)) (by decide) (by decide)) e381 F10 (g := (mkF m 41 #[.val (.ref a1), .val (.int (3 : Int32)), .unset] [(.ref sx), (.int (3 : Int32))])) rfl (by rw [hml]; rfl) (lenOf pd_9 rfl) rfl (by show 2 * 0 + _ ≤ _; exact Nat.le_of_eq rfl) (hb hby d10_41) (own_le hc2 (by decide)) (own_le hs2 (by decide)) (fun v382 T382 h382 L382 X382 e382 q382 => ?_)
      obtain ⟨rfl, M382, s382⟩ := q382
      replace e382 : T382.heap = h2 := e382.trans s382
      have N382 := Fr.app N2 M382
      refine own_go (fun t k => XS.icmpYes X382.here hx rfl (pc0 := 44) (pc' := 71) rfl (hb hby d10_44) rfl (flt (by decide : ¬ ((3 : Int32) < (3 : Int32)))).2.1 (by decide) (by decide) k) ?_
      refine own_go (fun t k => XS.iconst X382.here hx rfl (hb hby d10_71) k) ?_
      exact J72_329 (0 : Int32) T382 h2 _ _ _ X382 e382 N382 (Nat.add_le_add_right hc2 0) (Nat.add_le_add_right hs2 0) F3 F4 F5 F6 F7 F8 F9 F10 F11 F12 F13
  rcases he with rfl | rfl | rfl | rfl
  · skip
    show own_Run p e below Φ (s₁.setTop (mkF m 0 #[.val (.ref a1), .unset, .unset] []))
    refine own_go (fun t k => XS.aloadN X0.here hx rfl (hb hby d10_0) rfl rfl  k) ?_
    obtain ⟨T383, X383, e383, st383⟩ := getF X0 hx hZ hown (host := "") (Or.inl (hw _ (List.mem_of_getElem? (i := 55) rfl))) Via.refl e0 H4 (g := (mkF m 1 #[.val (.ref a1), .unset, .unset] [(.ref a1)])) rfl rfl (hb hby d10_1)
    refine own_go st383 ?_
    refine own_go (fun t k => XS.istoreN X383.here hx rfl (hb hby d10_4) rfl (l' := #[.val (.ref a1), .val (.int (0 : Int32)), .unset]) rfl k) ?_
    refine own_go (fun t k => XS.iloadN X383.here hx rfl (hb hby d10_5) rfl  k) ?_
    refine own_go (fun t k => XS.aloadN X383.here hx rfl (hb hby d10_6) rfl rfl  k) ?_
    show own_Run p e below Φ (T383.setTop (mkF m 7 #[.val (.ref a1), .val (.int (0 : Int32)), .unset] [(.ref a1), (.int (0 : Int32))]))
    obtain ⟨T384, X384, e384, st384⟩ := getF X383 hx hZ hown (host := "") (Or.inl (hw _ (List.mem_of_getElem? (i := 44) rfl))) Via.refl e383 H2 (g := (mkF m 7 #[.val (.ref a1), .val (.int (0 : Int32)), .unset] [(.ref a1), (.int (0 : Int32))])) rfl rfl (hb hby d10_7)
    refine own_go st384 ?_
    refine own_callV X384 hx hZ (y := (⟨"java/lang/String", "length", "()I"⟩ : MethodName)) (z := (⟨"java/lang/String", "length", "()I"⟩ : MethodName)) (W := 1) (a := sx) (argsL := []) (rest := [(.int (0 : Int32))]) hown (hw _ (List.mem_of_getElem? (i := 62) rfl)) (hw _ (List.mem_of_getElem? (i := 63) rfl)) (notFace_of_selects (args := #[]) (mvT hZ (hw _ (List.mem_of_getElem? (i := 65) rfl)))) (hw _ (List.mem_of_getElem? (i := 65) rfl)) (hw _ (List.mem_of_getElem? (i := 64) rfl)) (by decide) (own_bk (rm_le l Z a0 hw sx g1 tx kx _ _ _ h0 n0 H6 H7 hg5 H11 H12 H13 H14) hZ (hw _ (List.mem_of_getElem? (i := 66) rfl)) (hw _ (List.mem_of_getElem? (i := 7) rfl)) (by decide) (by decide)) e384 H11 (g := (mkF m 10 #[.val (.ref a1), .val (.int (0 : Int32)), .unset] [(.ref sx), (.int (0 : Int32))])) rfl (by rw [hml]; rfl) (lenOf pd_9 rfl) rfl (by show 2 * 0 + _ ≤ _; exact Nat.le_of_eq rfl) (hb hby d10_10) (by decide) (by decide) (fun v385 T385 h385 L385 X385 e385 q385 => ?_)
    obtain ⟨rfl, M385, s385⟩ := q385
    replace e385 : T385.heap = h0 := e385.trans s385
    have N385 := Fr.app N0 M385
    refine own_go (fun t k => XS.icmpNo X385.here hx rfl (hb hby d10_13) rfl (tlt (by decide : (0 : Int32) < (3 : Int32))).2.1 k) ?_
    refine own_go (fun t k => XS.aloadN X385.here hx rfl (hb hby d10_16) rfl rfl  k) ?_
    obtain ⟨T386, X386, e386, st386⟩ := getF X385 hx hZ hown (host := "") (Or.inl (hw _ (List.mem_of_getElem? (i := 44) rfl))) Via.refl e385 H2 (g := (mkF m 17 #[.val (.ref a1), .val (.int (0 : Int32)), .unset] [(.ref a1)])) rfl rfl (hb hby d10_17)
    refine own_go st386 ?_
    refine own_go (fun t k => XS.iloadN X386.here hx rfl (hb hby d10_20) rfl  k) ?_
    refine own_callV X386 hx hZ (y := (⟨"java/lang/String", "charAt", "(I)C"⟩ : MethodName)) (z := (⟨"java/lang/String", "charAt", "(I)C"⟩ : MethodName)) (W := 0) (a := sx) (argsL := [(.int (0 : Int32))]) (rest := []) hown (hw _ (List.mem_of_getElem? (i := 72) rfl)) (hw _ (List.mem_of_getElem? (i := 73) rfl)) (notFace_of_selects (args := #[]) (mvT hZ (hw _ (List.mem_of_getElem? (i := 75) rfl)))) (hw _ (List.mem_of_getElem? (i := 75) rfl)) (hw _ (List.mem_of_getElem? (i := 74) rfl)) (by decide) (own_bk (rm_ch0 l Z a0 hw sx g1 g3 tx kx _ _ _ h0 n0 H6 H7 hg5 H9 hr H11 H12 H13 H14 hy.1) hZ (hw _ (List.mem_of_getElem? (i := 76) rfl)) (hw _ (List.mem_of_getElem? (i := 7) rfl)) (by decide) (by decide)) e386 H11 (g := (mkF m 21 #[.val (.ref a1), .val (.int (0 : Int32)), .unset] [(.int (0 : Int32)), (.ref sx)])) rfl (by rw [hml]; rfl) (lenOf pd_0 rfl) rfl (by show 2 * 0 + _ ≤ _; exact Nat.le_of_eq rfl) (hb hby d10_21) (by decide) (by decide) (fun v387 T387 h387 L387 X387 e387 q387 => ?_)
    obtain ⟨rfl, M387, s387⟩ := q387
    replace e387 : T387.heap = h0 := e387.trans s387
    have N387 := Fr.app N385 M387
    refine own_callS X387 hx hZ (y := (⟨"com/example/profitmine/profitmine/io/Fields", "isBlank", "(C)Z"⟩ : MethodName)) (W := 0) (argsL := [(.int y0)]) (rest := []) hown (hw _ (List.mem_of_getElem? (i := 94) rfl)) (hw _ (List.mem_of_getElem? (i := 95) rfl)) (hw _ (List.mem_of_getElem? (i := 36) rfl)) (hw _ (List.mem_of_getElem? (i := 96) rfl)) (by decide) (own_bk (rm_ib l Z a0 hw y0 h0 n0 ) hZ (hw _ (List.mem_of_getElem? (i := 96) rfl)) (hw _ (List.mem_of_getElem? (i := 36) rfl)) (by decide) (by decide)) e387 (g := (mkF m 24 #[.val (.ref a1), .val (.int (0 : Int32)), .unset] [(.int y0)])) rfl (by rw [hml]; rfl) (lenOf pd_14 rfl) rfl (by show 2 * 0 + _ ≤ _; exact Nat.le_of_eq rfl) (hb hby d10_24) (by decide) (by decide) (fun v388 T388 h388 L388 X388 e388 q388 => ?_)
    obtain ⟨rfl, M388, s388⟩ := q388
    replace e388 : T388.heap = h0 := e388.trans s388
    have N388 := Fr.app N387 M388
    by_cases hc27 : (own_blk y0) = (0 : Int32)
    · refine own_go (fun t k => XS.ifYes X388.here hx rfl (pc0 := 27) (pc' := 36) rfl (hb hby d10_27) rfl ((if0 _ _).trans (teq hc27).1) (by decide) (by decide) k) ?_
      exact J36_1 (0 : Int32) T388 h0 _ _ _ X388 e388 N388 (by decide) (by decide) K0 H1 H2 H3 H4 H5 H6 H11 H12 H13 H14 (by decide)
    · refine own_go (fun t k => XS.ifNo X388.here hx rfl (hb hby d10_27) rfl ((if0 _ _).trans (feq hc27).1) k) ?_
      show own_Run p e below Φ (T388.setTop (mkF m 30 #[.val (.ref a1), .val (.int (0 : Int32)), .unset] []))
      refine own_go (fun t k => XS.iinc X388.here hx rfl (hb hby d10_30) rfl (l' := #[.val (.ref a1), .val (.int ((0 : Int32) + (1 : Int32))), .unset]) rfl k) ?_
      show own_Run p e below Φ (T388.setTop (mkF m 33 #[.val (.ref a1), .val (.int ((0 : Int32) + (1 : Int32))), .unset] []))
      rw [show ((0 : Int32) + (1 : Int32)) = (1 : Int32) from by decide]
      show own_Run p e below Φ (T388.setTop (mkF m 33 #[.val (.ref a1), .val (.int (1 : Int32)), .unset] []))
      refine own_go (fun t k => XS.goto X388.here hx rfl (pc0 := 33) (pc' := 5) rfl (hb hby d10_33) (by decide) (by decide) k) ?_
      refine own_go (fun t k => XS.iloadN X388.here hx rfl (hb hby d10_5) rfl  k) ?_
      refine own_go (fun t k => XS.aloadN X388.here hx rfl (hb hby d10_6) rfl rfl  k) ?_
      obtain ⟨T389, X389, e389, st389⟩ := getF X388 hx hZ hown (host := "") (Or.inl (hw _ (List.mem_of_getElem? (i := 44) rfl))) Via.refl e388 H2 (g := (mkF m 7 #[.val (.ref a1), .val (.int (1 : Int32)), .unset] [(.ref a1), (.int (1 : Int32))])) rfl rfl (hb hby d10_7)
      refine own_go st389 ?_
      refine own_callV X389 hx hZ (y := (⟨"java/lang/String", "length", "()I"⟩ : MethodName)) (z := (⟨"java/lang/String", "length", "()I"⟩ : MethodName)) (W := 1) (a := sx) (argsL := []) (rest := [(.int (1 : Int32))]) hown (hw _ (List.mem_of_getElem? (i := 62) rfl)) (hw _ (List.mem_of_getElem? (i := 63) rfl)) (notFace_of_selects (args := #[]) (mvT hZ (hw _ (List.mem_of_getElem? (i := 65) rfl)))) (hw _ (List.mem_of_getElem? (i := 65) rfl)) (hw _ (List.mem_of_getElem? (i := 64) rfl)) (by decide) (own_bk (rm_le l Z a0 hw sx g1 tx kx _ _ _ h0 n0 H6 H7 hg5 H11 H12 H13 H14) hZ (hw _ (List.mem_of_getElem? (i := 66) rfl)) (hw _ (List.mem_of_getElem? (i := 7) rfl)) (by decide) (by decide)) e389 H11 (g := (mkF m 10 #[.val (.ref a1), .val (.int (1 : Int32)), .unset] [(.ref sx), (.int (1 : Int32))])) rfl (by rw [hml]; rfl) (lenOf pd_9 rfl) rfl (by show 2 * 0 + _ ≤ _; exact Nat.le_of_eq rfl) (hb hby d10_10) (by decide) (by decide) (fun v390 T390 h390 L390 X390 e390 q390 => ?_)
      obtain ⟨rfl, M390, s390⟩ := q390
      replace e390 : T390.heap = h0 := e390.trans s390
      have N390 := Fr.app N388 M390
      refine own_go (fun t k => XS.icmpNo X390.here hx rfl (hb hby d10_13) rfl (tlt (by decide : (1 : Int32) < (3 : Int32))).2.1 k) ?_
      refine own_go (fun t k => XS.aloadN X390.here hx rfl (hb hby d10_16) rfl rfl  k) ?_
      obtain ⟨T391, X391, e391, st391⟩ := getF X390 hx hZ hown (host := "") (Or.inl (hw _ (List.mem_of_getElem? (i := 44) rfl))) Via.refl e390 H2 (g := (mkF m 17 #[.val (.ref a1), .val (.int (1 : Int32)), .unset] [(.ref a1)])) rfl rfl (hb hby d10_17)
      refine own_go st391 ?_
      refine own_go (fun t k => XS.iloadN X391.here hx rfl (hb hby d10_20) rfl  k) ?_
      show own_Run p e below Φ (T391.setTop (mkF m 21 #[.val (.ref a1), .val (.int (1 : Int32)), .unset] [(.int (1 : Int32)), (.ref sx)]))
      refine own_callV X391 hx hZ (y := (⟨"java/lang/String", "charAt", "(I)C"⟩ : MethodName)) (z := (⟨"java/lang/String", "charAt", "(I)C"⟩ : MethodName)) (W := 0) (a := sx) (argsL := [(.int (1 : Int32))]) (rest := []) hown (hw _ (List.mem_of_getElem? (i := 72) rfl)) (hw _ (List.mem_of_getElem? (i := 73) rfl)) (notFace_of_selects (args := #[]) (mvT hZ (hw _ (List.mem_of_getElem? (i := 75) rfl)))) (hw _ (List.mem_of_getElem? (i := 75) rfl)) (hw _ (List.mem_of_getElem? (i := 74) rfl)) (by decide) (own_bk (rm_ch1 l Z a0 hw sx g1 g3 tx kx _ _ _ h0 n0 H6 H7 hg5 H9 hr H11 H12 H13 H14 hy.2.1) hZ (hw _ (List.mem_of_getElem? (i := 76) rfl)) (hw _ (List.mem_of_getElem? (i := 7) rfl)) (by decide) (by decide)) e391 H11 (g := (mkF m 21 #[.val (.ref a1), .val (.int (1 : Int32)), .unset] [(.int (1 : Int32)), (.ref sx)])) rfl (by rw [hml]; rfl) (lenOf pd_0 rfl) rfl (by show 2 * 0 + _ ≤ _; exact Nat.le_of_eq rfl) (hb hby d10_21) (by decide) (by decide) (fun v392 T392 h392 L392 X392 e392 q392 => ?_)
      obtain ⟨rfl, M392, s392⟩ := q392
      replace e392 : T392.heap = h0 := e392.trans s392
      have N392 := Fr.app N390 M392
      refine own_callS X392 hx hZ (y := (⟨"com/example/profitmine/profitmine/io/Fields", "isBlank", "(C)Z"⟩ : MethodName)) (W := 0) (argsL := [(.int y1)]) (rest := []) hown (hw _ (List.mem_of_getElem? (i := 94) rfl)) (hw _ (List.mem_of_getElem? (i := 95) rfl)) (hw _ (List.mem_of_getElem? (i := 36) rfl)) (hw _ (List.mem_of_getElem? (i := 96) rfl)) (by decide) (own_bk (rm_ib l Z a0 hw y1 h0 n0 ) hZ (hw _ (List.mem_of_getElem? (i := 96) rfl)) (hw _ (List.mem_of_getElem? (i := 36) rfl)) (by decide) (by decide)) e392 (g := (mkF m 24 #[.val (.ref a1), .val (.int (1 : Int32)), .unset] [(.int y1)])) rfl (by rw [hml]; rfl) (lenOf pd_14 rfl) rfl (by show 2 * 0 + _ ≤ _; exact Nat.le_of_eq rfl) (hb hby d10_24) (by decide) (by decide) (fun v393 T393 h393 L393 X393 e393 q393 => ?_)
      obtain ⟨rfl, M393, s393⟩ := q393
      replace e393 : T393.heap = h0 := e393.trans s393
      have N393 := Fr.app N392 M393
      by_cases hc27_2 : (own_blk y1) = (0 : Int32)
      · refine own_go (fun t k => XS.ifYes X393.here hx rfl (pc0 := 27) (pc' := 36) rfl (hb hby d10_27) rfl ((if0 _ _).trans (teq hc27_2).1) (by decide) (by decide) k) ?_
        exact J36_1 (1 : Int32) T393 h0 _ _ _ X393 e393 N393 (by decide) (by decide) K0 H1 H2 H3 H4 H5 H6 H11 H12 H13 H14 (by decide)
      · refine own_go (fun t k => XS.ifNo X393.here hx rfl (hb hby d10_27) rfl ((if0 _ _).trans (feq hc27_2).1) k) ?_
        refine own_go (fun t k => XS.iinc X393.here hx rfl (hb hby d10_30) rfl (l' := #[.val (.ref a1), .val (.int ((1 : Int32) + (1 : Int32))), .unset]) rfl k) ?_
        show own_Run p e below Φ (T393.setTop (mkF m 33 #[.val (.ref a1), .val (.int ((1 : Int32) + (1 : Int32))), .unset] []))
        rw [show ((1 : Int32) + (1 : Int32)) = (2 : Int32) from by decide]
        show own_Run p e below Φ (T393.setTop (mkF m 33 #[.val (.ref a1), .val (.int (2 : Int32)), .unset] []))
        refine own_go (fun t k => XS.goto X393.here hx rfl (pc0 := 33) (pc' := 5) rfl (hb hby d10_33) (by decide) (by decide) k) ?_
        refine own_go (fun t k => XS.iloadN X393.here hx rfl (hb hby d10_5) rfl  k) ?_
        refine own_go (fun t k => XS.aloadN X393.here hx rfl (hb hby d10_6) rfl rfl  k) ?_
        obtain ⟨T394, X394, e394, st394⟩ := getF X393 hx hZ hown (host := "") (Or.inl (hw _ (List.mem_of_getElem? (i := 44) rfl))) Via.refl e393 H2 (g := (mkF m 7 #[.val (.ref a1), .val (.int (2 : Int32)), .unset] [(.ref a1), (.int (2 : Int32))])) rfl rfl (hb hby d10_7)
        refine own_go st394 ?_
        refine own_callV X394 hx hZ (y := (⟨"java/lang/String", "length", "()I"⟩ : MethodName)) (z := (⟨"java/lang/String", "length", "()I"⟩ : MethodName)) (W := 1) (a := sx) (argsL := []) (rest := [(.int (2 : Int32))]) hown (hw _ (List.mem_of_getElem? (i := 62) rfl)) (hw _ (List.mem_of_getElem? (i := 63) rfl)) (notFace_of_selects (args := #[]) (mvT hZ (hw _ (List.mem_of_getElem? (i := 65) rfl)))) (hw _ (List.mem_of_getElem? (i := 65) rfl)) (hw _ (List.mem_of_getElem? (i := 64) rfl)) (by decide) (own_bk (rm_le l Z a0 hw sx g1 tx kx _ _ _ h0 n0 H6 H7 hg5 H11 H12 H13 H14) hZ (hw _ (List.mem_of_getElem? (i := 66) rfl)) (hw _ (List.mem_of_getElem? (i := 7) rfl)) (by decide) (by decide)) e394 H11 (g := (mkF m 10 #[.val (.ref a1), .val (.int (2 : Int32)), .unset] [(.ref sx), (.int (2 : Int32))])) rfl (by rw [hml]; rfl) (lenOf pd_9 rfl) rfl (by show 2 * 0 + _ ≤ _; exact Nat.le_of_eq rfl) (hb hby d10_10) (by decide) (by decide) (fun v395 T395 h395 L395 X395 e395 q395 => ?_)
        obtain ⟨rfl, M395, s395⟩ := q395
        replace e395 : T395.heap = h0 := e395.trans s395
        have N395 := Fr.app N393 M395
        refine own_go (fun t k => XS.icmpNo X395.here hx rfl (hb hby d10_13) rfl (tlt (by decide : (2 : Int32) < (3 : Int32))).2.1 k) ?_
        refine own_go (fun t k => XS.aloadN X395.here hx rfl (hb hby d10_16) rfl rfl  k) ?_
        obtain ⟨T396, X396, e396, st396⟩ := getF X395 hx hZ hown (host := "") (Or.inl (hw _ (List.mem_of_getElem? (i := 44) rfl))) Via.refl e395 H2 (g := (mkF m 17 #[.val (.ref a1), .val (.int (2 : Int32)), .unset] [(.ref a1)])) rfl rfl (hb hby d10_17)
        refine own_go st396 ?_
        refine own_go (fun t k => XS.iloadN X396.here hx rfl (hb hby d10_20) rfl  k) ?_
        show own_Run p e below Φ (T396.setTop (mkF m 21 #[.val (.ref a1), .val (.int (2 : Int32)), .unset] [(.int (2 : Int32)), (.ref sx)]))
        refine own_callV X396 hx hZ (y := (⟨"java/lang/String", "charAt", "(I)C"⟩ : MethodName)) (z := (⟨"java/lang/String", "charAt", "(I)C"⟩ : MethodName)) (W := 0) (a := sx) (argsL := [(.int (2 : Int32))]) (rest := []) hown (hw _ (List.mem_of_getElem? (i := 72) rfl)) (hw _ (List.mem_of_getElem? (i := 73) rfl)) (notFace_of_selects (args := #[]) (mvT hZ (hw _ (List.mem_of_getElem? (i := 75) rfl)))) (hw _ (List.mem_of_getElem? (i := 75) rfl)) (hw _ (List.mem_of_getElem? (i := 74) rfl)) (by decide) (own_bk (rm_ch2 l Z a0 hw sx g1 g3 tx kx _ _ _ h0 n0 H6 H7 hg5 H9 hr H11 H12 H13 H14 hy.2.2) hZ (hw _ (List.mem_of_getElem? (i := 76) rfl)) (hw _ (List.mem_of_getElem? (i := 7) rfl)) (by decide) (by decide)) e396 H11 (g := (mkF m 21 #[.val (.ref a1), .val (.int (2 : Int32)), .unset] [(.int (2 : Int32)), (.ref sx)])) rfl (by rw [hml]; rfl) (lenOf pd_0 rfl) rfl (by show 2 * 0 + _ ≤ _; exact Nat.le_of_eq rfl) (hb hby d10_21) (by decide) (by decide) (fun v397 T397 h397 L397 X397 e397 q397 => ?_)
        obtain ⟨rfl, M397, s397⟩ := q397
        replace e397 : T397.heap = h0 := e397.trans s397
        have N397 := Fr.app N395 M397
        refine own_callS X397 hx hZ (y := (⟨"com/example/profitmine/profitmine/io/Fields", "isBlank", "(C)Z"⟩ : MethodName)) (W := 0) (argsL := [(.int y2)]) (rest := []) hown (hw _ (List.mem_of_getElem? (i := 94) rfl)) (hw _ (List.mem_of_getElem? (i := 95) rfl)) (hw _ (List.mem_of_getElem? (i := 36) rfl)) (hw _ (List.mem_of_getElem? (i := 96) rfl)) (by decide) (own_bk (rm_ib l Z a0 hw y2 h0 n0 ) hZ (hw _ (List.mem_of_getElem? (i := 96) rfl)) (hw _ (List.mem_of_getElem? (i := 36) rfl)) (by decide) (by decide)) e397 (g := (mkF m 24 #[.val (.ref a1), .val (.int (2 : Int32)), .unset] [(.int y2)])) rfl (by rw [hml]; rfl) (lenOf pd_14 rfl) rfl (by show 2 * 0 + _ ≤ _; exact Nat.le_of_eq rfl) (hb hby d10_24) (by decide) (by decide) (fun v398 T398 h398 L398 X398 e398 q398 => ?_)
        obtain ⟨rfl, M398, s398⟩ := q398
        replace e398 : T398.heap = h0 := e398.trans s398
        have N398 := Fr.app N397 M398
        by_cases hc27_3 : (own_blk y2) = (0 : Int32)
        · refine own_go (fun t k => XS.ifYes X398.here hx rfl (pc0 := 27) (pc' := 36) rfl (hb hby d10_27) rfl ((if0 _ _).trans (teq hc27_3).1) (by decide) (by decide) k) ?_
          exact J36_1 (2 : Int32) T398 h0 _ _ _ X398 e398 N398 (by decide) (by decide) K0 H1 H2 H3 H4 H5 H6 H11 H12 H13 H14 (by decide)
        · refine own_go (fun t k => XS.ifNo X398.here hx rfl (hb hby d10_27) rfl ((if0 _ _).trans (feq hc27_3).1) k) ?_
          refine own_go (fun t k => XS.iinc X398.here hx rfl (hb hby d10_30) rfl (l' := #[.val (.ref a1), .val (.int ((2 : Int32) + (1 : Int32))), .unset]) rfl k) ?_
          show own_Run p e below Φ (T398.setTop (mkF m 33 #[.val (.ref a1), .val (.int ((2 : Int32) + (1 : Int32))), .unset] []))
          rw [show ((2 : Int32) + (1 : Int32)) = (3 : Int32) from by decide]
          show own_Run p e below Φ (T398.setTop (mkF m 33 #[.val (.ref a1), .val (.int (3 : Int32)), .unset] []))
          refine own_go (fun t k => XS.goto X398.here hx rfl (pc0 := 33) (pc' := 5) rfl (hb hby d10_33) (by decide) (by decide) k) ?_
          refine own_go (fun t k => XS.iloadN X398.here hx rfl (hb hby d10_5) rfl  k) ?_
          refine own_go (fun t k => XS.aloadN X398.here hx rfl (hb hby d10_6) rfl rfl  k) ?_
          obtain ⟨T399, X399, e399, st399⟩ := getF X398 hx hZ hown (host := "") (Or.inl (hw _ (List.mem_of_getElem? (i := 44) rfl))) Via.refl e398 H2 (g := (mkF m 7 #[.val (.ref a1), .val (.int (3 : Int32)), .unset] [(.ref a1), (.int (3 : Int32))])) rfl rfl (hb hby d10_7)
          refine own_go st399 ?_
          refine own_callV X399 hx hZ (y := (⟨"java/lang/String", "length", "()I"⟩ : MethodName)) (z := (⟨"java/lang/String", "length", "()I"⟩ : MethodName)) (W := 1) (a := sx) (argsL := []) (rest := [(.int (3 : Int32))]) hown (hw _ (List.mem_of_getElem? (i := 62) rfl)) (hw _ (List.mem_of_getElem? (i := 63) rfl)) (notFace_of_selects (args := #[]) (mvT hZ (hw _ (List.mem_of_getElem? (i := 65) rfl)))) (hw _ (List.mem_of_getElem? (i := 65) rfl)) (hw _ (List.mem_of_getElem? (i := 64) rfl)) (by decide) (own_bk (rm_le l Z a0 hw sx g1 tx kx _ _ _ h0 n0 H6 H7 hg5 H11 H12 H13 H14) hZ (hw _ (List.mem_of_getElem? (i := 66) rfl)) (hw _ (List.mem_of_getElem? (i := 7) rfl)) (by decide) (by decide)) e399 H11 (g := (mkF m 10 #[.val (.ref a1), .val (.int (3 : Int32)), .unset] [(.ref sx), (.int (3 : Int32))])) rfl (by rw [hml]; rfl) (lenOf pd_9 rfl) rfl (by show 2 * 0 + _ ≤ _; exact Nat.le_of_eq rfl) (hb hby d10_10) (by decide) (by decide) (fun v400 T400 h400 L400 X400 e400 q400 => ?_)
          obtain ⟨rfl, M400, s400⟩ := q400
          replace e400 : T400.heap = h0 := e400.trans s400
          have N400 := Fr.app N398 M400
          refine own_go (fun t k => XS.icmpYes X400.here hx rfl (pc0 := 13) (pc' := 36) rfl (hb hby d10_13) rfl (flt (by decide : ¬ ((3 : Int32) < (3 : Int32)))).2.1 (by decide) (by decide) k) ?_
          exact J36_1 (3 : Int32) T400 h0 _ _ _ X400 e400 N400 (by decide) (by decide) K0 H1 H2 H3 H4 H5 H6 H11 H12 H13 H14 (by decide)
  · skip
    show own_Run p e below Φ (s₁.setTop (mkF m 0 #[.val (.ref a1), .unset, .unset] []))
    refine own_go (fun t k => XS.aloadN X0.here hx rfl (hb hby d10_0) rfl rfl  k) ?_
    obtain ⟨T401, X401, e401, st401⟩ := getF X0 hx hZ hown (host := "") (Or.inl (hw _ (List.mem_of_getElem? (i := 55) rfl))) Via.refl e0 H4 (g := (mkF m 1 #[.val (.ref a1), .unset, .unset] [(.ref a1)])) rfl rfl (hb hby d10_1)
    refine own_go st401 ?_
    refine own_go (fun t k => XS.istoreN X401.here hx rfl (hb hby d10_4) rfl (l' := #[.val (.ref a1), .val (.int (1 : Int32)), .unset]) rfl k) ?_
    refine own_go (fun t k => XS.iloadN X401.here hx rfl (hb hby d10_5) rfl  k) ?_
    show own_Run p e below Φ (T401.setTop (mkF m 6 #[.val (.ref a1), .val (.int (1 : Int32)), .unset] [(.int (1 : Int32))]))
    refine own_go (fun t k => XS.aloadN X401.here hx rfl (hb hby d10_6) rfl rfl  k) ?_
    obtain ⟨T402, X402, e402, st402⟩ := getF X401 hx hZ hown (host := "") (Or.inl (hw _ (List.mem_of_getElem? (i := 44) rfl))) Via.refl e401 H2 (g := (mkF m 7 #[.val (.ref a1), .val (.int (1 : Int32)), .unset] [(.ref a1), (.int (1 : Int32))])) rfl rfl (hb hby d10_7)
    refine own_go st402 ?_
    refine own_callV X402 hx hZ (y := (⟨"java/lang/String", "length", "()I"⟩ : MethodName)) (z := (⟨"java/lang/String", "length", "()I"⟩ : MethodName)) (W := 1) (a := sx) (argsL := []) (rest := [(.int (1 : Int32))]) hown (hw _ (List.mem_of_getElem? (i := 62) rfl)) (hw _ (List.mem_of_getElem? (i := 63) rfl)) (notFace_of_selects (args := #[]) (mvT hZ (hw _ (List.mem_of_getElem? (i := 65) rfl)))) (hw _ (List.mem_of_getElem? (i := 65) rfl)) (hw _ (List.mem_of_getElem? (i := 64) rfl)) (by decide) (own_bk (rm_le l Z a0 hw sx g1 tx kx _ _ _ h0 n0 H6 H7 hg5 H11 H12 H13 H14) hZ (hw _ (List.mem_of_getElem? (i := 66) rfl)) (hw _ (List.mem_of_getElem? (i := 7) rfl)) (by decide) (by decide)) e402 H11 (g := (mkF m 10 #[.val (.ref a1), .val (.int (1 : Int32)), .unset] [(.ref sx), (.int (1 : Int32))])) rfl (by rw [hml]; rfl) (lenOf pd_9 rfl) rfl (by show 2 * 0 + _ ≤ _; exact Nat.le_of_eq rfl) (hb hby d10_10) (by decide) (by decide) (fun v403 T403 h403 L403 X403 e403 q403 => ?_)
    obtain ⟨rfl, M403, s403⟩ := q403
    replace e403 : T403.heap = h0 := e403.trans s403
    have N403 := Fr.app N0 M403
    refine own_go (fun t k => XS.icmpNo X403.here hx rfl (hb hby d10_13) rfl (tlt (by decide : (1 : Int32) < (3 : Int32))).2.1 k) ?_
    refine own_go (fun t k => XS.aloadN X403.here hx rfl (hb hby d10_16) rfl rfl  k) ?_
    obtain ⟨T404, X404, e404, st404⟩ := getF X403 hx hZ hown (host := "") (Or.inl (hw _ (List.mem_of_getElem? (i := 44) rfl))) Via.refl e403 H2 (g := (mkF m 17 #[.val (.ref a1), .val (.int (1 : Int32)), .unset] [(.ref a1)])) rfl rfl (hb hby d10_17)
    refine own_go st404 ?_
    refine own_go (fun t k => XS.iloadN X404.here hx rfl (hb hby d10_20) rfl  k) ?_
    refine own_callV X404 hx hZ (y := (⟨"java/lang/String", "charAt", "(I)C"⟩ : MethodName)) (z := (⟨"java/lang/String", "charAt", "(I)C"⟩ : MethodName)) (W := 0) (a := sx) (argsL := [(.int (1 : Int32))]) (rest := []) hown (hw _ (List.mem_of_getElem? (i := 72) rfl)) (hw _ (List.mem_of_getElem? (i := 73) rfl)) (notFace_of_selects (args := #[]) (mvT hZ (hw _ (List.mem_of_getElem? (i := 75) rfl)))) (hw _ (List.mem_of_getElem? (i := 75) rfl)) (hw _ (List.mem_of_getElem? (i := 74) rfl)) (by decide) (own_bk (rm_ch1 l Z a0 hw sx g1 g3 tx kx _ _ _ h0 n0 H6 H7 hg5 H9 hr H11 H12 H13 H14 hy.2.1) hZ (hw _ (List.mem_of_getElem? (i := 76) rfl)) (hw _ (List.mem_of_getElem? (i := 7) rfl)) (by decide) (by decide)) e404 H11 (g := (mkF m 21 #[.val (.ref a1), .val (.int (1 : Int32)), .unset] [(.int (1 : Int32)), (.ref sx)])) rfl (by rw [hml]; rfl) (lenOf pd_0 rfl) rfl (by show 2 * 0 + _ ≤ _; exact Nat.le_of_eq rfl) (hb hby d10_21) (by decide) (by decide) (fun v405 T405 h405 L405 X405 e405 q405 => ?_)
    obtain ⟨rfl, M405, s405⟩ := q405
    replace e405 : T405.heap = h0 := e405.trans s405
    have N405 := Fr.app N403 M405
    refine own_callS X405 hx hZ (y := (⟨"com/example/profitmine/profitmine/io/Fields", "isBlank", "(C)Z"⟩ : MethodName)) (W := 0) (argsL := [(.int y1)]) (rest := []) hown (hw _ (List.mem_of_getElem? (i := 94) rfl)) (hw _ (List.mem_of_getElem? (i := 95) rfl)) (hw _ (List.mem_of_getElem? (i := 36) rfl)) (hw _ (List.mem_of_getElem? (i := 96) rfl)) (by decide) (own_bk (rm_ib l Z a0 hw y1 h0 n0 ) hZ (hw _ (List.mem_of_getElem? (i := 96) rfl)) (hw _ (List.mem_of_getElem? (i := 36) rfl)) (by decide) (by decide)) e405 (g := (mkF m 24 #[.val (.ref a1), .val (.int (1 : Int32)), .unset] [(.int y1)])) rfl (by rw [hml]; rfl) (lenOf pd_14 rfl) rfl (by show 2 * 0 + _ ≤ _; exact Nat.le_of_eq rfl) (hb hby d10_24) (by decide) (by decide) (fun v406 T406 h406 L406 X406 e406 q406 => ?_)
    obtain ⟨rfl, M406, s406⟩ := q406
    replace e406 : T406.heap = h0 := e406.trans s406
    have N406 := Fr.app N405 M406
    show own_Run p e below Φ (T406.setTop (mkF m 27 #[.val (.ref a1), .val (.int (1 : Int32)), .unset] [(.int (own_blk y1))]))
    by_cases hc27 : (own_blk y1) = (0 : Int32)
    · refine own_go (fun t k => XS.ifYes X406.here hx rfl (pc0 := 27) (pc' := 36) rfl (hb hby d10_27) rfl ((if0 _ _).trans (teq hc27).1) (by decide) (by decide) k) ?_
      exact J36_1 (1 : Int32) T406 h0 _ _ _ X406 e406 N406 (by decide) (by decide) K0 H1 H2 H3 H4 H5 H6 H11 H12 H13 H14 (by decide)
    · refine own_go (fun t k => XS.ifNo X406.here hx rfl (hb hby d10_27) rfl ((if0 _ _).trans (feq hc27).1) k) ?_
      refine own_go (fun t k => XS.iinc X406.here hx rfl (hb hby d10_30) rfl (l' := #[.val (.ref a1), .val (.int ((1 : Int32) + (1 : Int32))), .unset]) rfl k) ?_
      show own_Run p e below Φ (T406.setTop (mkF m 33 #[.val (.ref a1), .val (.int ((1 : Int32) + (1 : Int32))), .unset] []))
      rw [show ((1 : Int32) + (1 : Int32)) = (2 : Int32) from by decide]
      show own_Run p e below Φ (T406.setTop (mkF m 33 #[.val (.ref a1), .val (.int (2 : Int32)), .unset] []))
      refine own_go (fun t k => XS.goto X406.here hx rfl (pc0 := 33) (pc' := 5) rfl (hb hby d10_33) (by decide) (by decide) k) ?_
      refine own_go (fun t k => XS.iloadN X406.here hx rfl (hb hby d10_5) rfl  k) ?_
      refine own_go (fun t k => XS.aloadN X406.here hx rfl (hb hby d10_6) rfl rfl  k) ?_
      obtain ⟨T407, X407, e407, st407⟩ := getF X406 hx hZ hown (host := "") (Or.inl (hw _ (List.mem_of_getElem? (i := 44) rfl))) Via.refl e406 H2 (g := (mkF m 7 #[.val (.ref a1), .val (.int (2 : Int32)), .unset] [(.ref a1), (.int (2 : Int32))])) rfl rfl (hb hby d10_7)
      refine own_go st407 ?_
      refine own_callV X407 hx hZ (y := (⟨"java/lang/String", "length", "()I"⟩ : MethodName)) (z := (⟨"java/lang/String", "length", "()I"⟩ : MethodName)) (W := 1) (a := sx) (argsL := []) (rest := [(.int (2 : Int32))]) hown (hw _ (List.mem_of_getElem? (i := 62) rfl)) (hw _ (List.mem_of_getElem? (i := 63) rfl)) (notFace_of_selects (args := #[]) (mvT hZ (hw _ (List.mem_of_getElem? (i := 65) rfl)))) (hw _ (List.mem_of_getElem? (i := 65) rfl)) (hw _ (List.mem_of_getElem? (i := 64) rfl)) (by decide) (own_bk (rm_le l Z a0 hw sx g1 tx kx _ _ _ h0 n0 H6 H7 hg5 H11 H12 H13 H14) hZ (hw _ (List.mem_of_getElem? (i := 66) rfl)) (hw _ (List.mem_of_getElem? (i := 7) rfl)) (by decide) (by decide)) e407 H11 (g := (mkF m 10 #[.val (.ref a1), .val (.int (2 : Int32)), .unset] [(.ref sx), (.int (2 : Int32))])) rfl (by rw [hml]; rfl) (lenOf pd_9 rfl) rfl (by show 2 * 0 + _ ≤ _; exact Nat.le_of_eq rfl) (hb hby d10_10) (by decide) (by decide) (fun v408 T408 h408 L408 X408 e408 q408 => ?_)
      obtain ⟨rfl, M408, s408⟩ := q408
      replace e408 : T408.heap = h0 := e408.trans s408
      have N408 := Fr.app N406 M408
      refine own_go (fun t k => XS.icmpNo X408.here hx rfl (hb hby d10_13) rfl (tlt (by decide : (2 : Int32) < (3 : Int32))).2.1 k) ?_
      refine own_go (fun t k => XS.aloadN X408.here hx rfl (hb hby d10_16) rfl rfl  k) ?_
      obtain ⟨T409, X409, e409, st409⟩ := getF X408 hx hZ hown (host := "") (Or.inl (hw _ (List.mem_of_getElem? (i := 44) rfl))) Via.refl e408 H2 (g := (mkF m 17 #[.val (.ref a1), .val (.int (2 : Int32)), .unset] [(.ref a1)])) rfl rfl (hb hby d10_17)
      refine own_go st409 ?_
      refine own_go (fun t k => XS.iloadN X409.here hx rfl (hb hby d10_20) rfl  k) ?_
      show own_Run p e below Φ (T409.setTop (mkF m 21 #[.val (.ref a1), .val (.int (2 : Int32)), .unset] [(.int (2 : Int32)), (.ref sx)]))
      refine own_callV X409 hx hZ (y := (⟨"java/lang/String", "charAt", "(I)C"⟩ : MethodName)) (z := (⟨"java/lang/String", "charAt", "(I)C"⟩ : MethodName)) (W := 0) (a := sx) (argsL := [(.int (2 : Int32))]) (rest := []) hown (hw _ (List.mem_of_getElem? (i := 72) rfl)) (hw _ (List.mem_of_getElem? (i := 73) rfl)) (notFace_of_selects (args := #[]) (mvT hZ (hw _ (List.mem_of_getElem? (i := 75) rfl)))) (hw _ (List.mem_of_getElem? (i := 75) rfl)) (hw _ (List.mem_of_getElem? (i := 74) rfl)) (by decide) (own_bk (rm_ch2 l Z a0 hw sx g1 g3 tx kx _ _ _ h0 n0 H6 H7 hg5 H9 hr H11 H12 H13 H14 hy.2.2) hZ (hw _ (List.mem_of_getElem? (i := 76) rfl)) (hw _ (List.mem_of_getElem? (i := 7) rfl)) (by decide) (by decide)) e409 H11 (g := (mkF m 21 #[.val (.ref a1), .val (.int (2 : Int32)), .unset] [(.int (2 : Int32)), (.ref sx)])) rfl (by rw [hml]; rfl) (lenOf pd_0 rfl) rfl (by show 2 * 0 + _ ≤ _; exact Nat.le_of_eq rfl) (hb hby d10_21) (by decide) (by decide) (fun v410 T410 h410 L410 X410 e410 q410 => ?_)
      obtain ⟨rfl, M410, s410⟩ := q410
      replace e410 : T410.heap = h0 := e410.trans s410
      have N410 := Fr.app N408 M410
      refine own_callS X410 hx hZ (y := (⟨"com/example/profitmine/profitmine/io/Fields", "isBlank", "(C)Z"⟩ : MethodName)) (W := 0) (argsL := [(.int y2)]) (rest := []) hown (hw _ (List.mem_of_getElem? (i := 94) rfl)) (hw _ (List.mem_of_getElem? (i := 95) rfl)) (hw _ (List.mem_of_getElem? (i := 36) rfl)) (hw _ (List.mem_of_getElem? (i := 96) rfl)) (by decide) (own_bk (rm_ib l Z a0 hw y2 h0 n0 ) hZ (hw _ (List.mem_of_getElem? (i := 96) rfl)) (hw _ (List.mem_of_getElem? (i := 36) rfl)) (by decide) (by decide)) e410 (g := (mkF m 24 #[.val (.ref a1), .val (.int (2 : Int32)), .unset] [(.int y2)])) rfl (by rw [hml]; rfl) (lenOf pd_14 rfl) rfl (by show 2 * 0 + _ ≤ _; exact Nat.le_of_eq rfl) (hb hby d10_24) (by decide) (by decide) (fun v411 T411 h411 L411 X411 e411 q411 => ?_)
      obtain ⟨rfl, M411, s411⟩ := q411
      replace e411 : T411.heap = h0 := e411.trans s411
      have N411 := Fr.app N410 M411
      by_cases hc27_2 : (own_blk y2) = (0 : Int32)
      · refine own_go (fun t k => XS.ifYes X411.here hx rfl (pc0 := 27) (pc' := 36) rfl (hb hby d10_27) rfl ((if0 _ _).trans (teq hc27_2).1) (by decide) (by decide) k) ?_
        exact J36_1 (2 : Int32) T411 h0 _ _ _ X411 e411 N411 (by decide) (by decide) K0 H1 H2 H3 H4 H5 H6 H11 H12 H13 H14 (by decide)
      · refine own_go (fun t k => XS.ifNo X411.here hx rfl (hb hby d10_27) rfl ((if0 _ _).trans (feq hc27_2).1) k) ?_
        refine own_go (fun t k => XS.iinc X411.here hx rfl (hb hby d10_30) rfl (l' := #[.val (.ref a1), .val (.int ((2 : Int32) + (1 : Int32))), .unset]) rfl k) ?_
        show own_Run p e below Φ (T411.setTop (mkF m 33 #[.val (.ref a1), .val (.int ((2 : Int32) + (1 : Int32))), .unset] []))
        rw [show ((2 : Int32) + (1 : Int32)) = (3 : Int32) from by decide]
        show own_Run p e below Φ (T411.setTop (mkF m 33 #[.val (.ref a1), .val (.int (3 : Int32)), .unset] []))
        refine own_go (fun t k => XS.goto X411.here hx rfl (pc0 := 33) (pc' := 5) rfl (hb hby d10_33) (by decide) (by decide) k) ?_
        refine own_go (fun t k => XS.iloadN X411.here hx rfl (hb hby d10_5) rfl  k) ?_
        refine own_go (fun t k => XS.aloadN X411.here hx rfl (hb hby d10_6) rfl rfl  k) ?_
        obtain ⟨T412, X412, e412, st412⟩ := getF X411 hx hZ hown (host := "") (Or.inl (hw _ (List.mem_of_getElem? (i := 44) rfl))) Via.refl e411 H2 (g := (mkF m 7 #[.val (.ref a1), .val (.int (3 : Int32)), .unset] [(.ref a1), (.int (3 : Int32))])) rfl rfl (hb hby d10_7)
        refine own_go st412 ?_
        refine own_callV X412 hx hZ (y := (⟨"java/lang/String", "length", "()I"⟩ : MethodName)) (z := (⟨"java/lang/String", "length", "()I"⟩ : MethodName)) (W := 1) (a := sx) (argsL := []) (rest := [(.int (3 : Int32))]) hown (hw _ (List.mem_of_getElem? (i := 62) rfl)) (hw _ (List.mem_of_getElem? (i := 63) rfl)) (notFace_of_selects (args := #[]) (mvT hZ (hw _ (List.mem_of_getElem? (i := 65) rfl)))) (hw _ (List.mem_of_getElem? (i := 65) rfl)) (hw _ (List.mem_of_getElem? (i := 64) rfl)) (by decide) (own_bk (rm_le l Z a0 hw sx g1 tx kx _ _ _ h0 n0 H6 H7 hg5 H11 H12 H13 H14) hZ (hw _ (List.mem_of_getElem? (i := 66) rfl)) (hw _ (List.mem_of_getElem? (i := 7) rfl)) (by decide) (by decide)) e412 H11 (g := (mkF m 10 #[.val (.ref a1), .val (.int (3 : Int32)), .unset] [(.ref sx), (.int (3 : Int32))])) rfl (by rw [hml]; rfl) (lenOf pd_9 rfl) rfl (by show 2 * 0 + _ ≤ _; exact Nat.le_of_eq rfl) (hb hby d10_10) (by decide) (by decide) (fun v413 T413 h413 L413 X413 e413 q413 => ?_)
        obtain ⟨rfl, M413, s413⟩ := q413
        replace e413 : T413.heap = h0 := e413.trans s413
        have N413 := Fr.app N411 M413
        refine own_go (fun t k => XS.icmpYes X413.here hx rfl (pc0 := 13) (pc' := 36) rfl (hb hby d10_13) rfl (flt (by decide : ¬ ((3 : Int32) < (3 : Int32)))).2.1 (by decide) (by decide) k) ?_
        exact J36_1 (3 : Int32) T413 h0 _ _ _ X413 e413 N413 (by decide) (by decide) K0 H1 H2 H3 H4 H5 H6 H11 H12 H13 H14 (by decide)
  · skip
    show own_Run p e below Φ (s₁.setTop (mkF m 0 #[.val (.ref a1), .unset, .unset] []))
    refine own_go (fun t k => XS.aloadN X0.here hx rfl (hb hby d10_0) rfl rfl  k) ?_
    obtain ⟨T414, X414, e414, st414⟩ := getF X0 hx hZ hown (host := "") (Or.inl (hw _ (List.mem_of_getElem? (i := 55) rfl))) Via.refl e0 H4 (g := (mkF m 1 #[.val (.ref a1), .unset, .unset] [(.ref a1)])) rfl rfl (hb hby d10_1)
    refine own_go st414 ?_
    refine own_go (fun t k => XS.istoreN X414.here hx rfl (hb hby d10_4) rfl (l' := #[.val (.ref a1), .val (.int (2 : Int32)), .unset]) rfl k) ?_
    refine own_go (fun t k => XS.iloadN X414.here hx rfl (hb hby d10_5) rfl  k) ?_
    show own_Run p e below Φ (T414.setTop (mkF m 6 #[.val (.ref a1), .val (.int (2 : Int32)), .unset] [(.int (2 : Int32))]))
    refine own_go (fun t k => XS.aloadN X414.here hx rfl (hb hby d10_6) rfl rfl  k) ?_
    obtain ⟨T415, X415, e415, st415⟩ := getF X414 hx hZ hown (host := "") (Or.inl (hw _ (List.mem_of_getElem? (i := 44) rfl))) Via.refl e414 H2 (g := (mkF m 7 #[.val (.ref a1), .val (.int (2 : Int32)), .unset] [(.ref a1), (.int (2 : Int32))])) rfl rfl (hb hby d10_7)
    refine own_go st415 ?_
    refine own_callV X415 hx hZ (y := (⟨"java/lang/String", "length", "()I"⟩ : MethodName)) (z := (⟨"java/lang/String", "length", "()I"⟩ : MethodName)) (W := 1) (a := sx) (argsL := []) (rest := [(.int (2 : Int32))]) hown (hw _ (List.mem_of_getElem? (i := 62) rfl)) (hw _ (List.mem_of_getElem? (i := 63) rfl)) (notFace_of_selects (args := #[]) (mvT hZ (hw _ (List.mem_of_getElem? (i := 65) rfl)))) (hw _ (List.mem_of_getElem? (i := 65) rfl)) (hw _ (List.mem_of_getElem? (i := 64) rfl)) (by decide) (own_bk (rm_le l Z a0 hw sx g1 tx kx _ _ _ h0 n0 H6 H7 hg5 H11 H12 H13 H14) hZ (hw _ (List.mem_of_getElem? (i := 66) rfl)) (hw _ (List.mem_of_getElem? (i := 7) rfl)) (by decide) (by decide)) e415 H11 (g := (mkF m 10 #[.val (.ref a1), .val (.int (2 : Int32)), .unset] [(.ref sx), (.int (2 : Int32))])) rfl (by rw [hml]; rfl) (lenOf pd_9 rfl) rfl (by show 2 * 0 + _ ≤ _; exact Nat.le_of_eq rfl) (hb hby d10_10) (by decide) (by decide) (fun v416 T416 h416 L416 X416 e416 q416 => ?_)
    obtain ⟨rfl, M416, s416⟩ := q416
    replace e416 : T416.heap = h0 := e416.trans s416
    have N416 := Fr.app N0 M416
    refine own_go (fun t k => XS.icmpNo X416.here hx rfl (hb hby d10_13) rfl (tlt (by decide : (2 : Int32) < (3 : Int32))).2.1 k) ?_
    refine own_go (fun t k => XS.aloadN X416.here hx rfl (hb hby d10_16) rfl rfl  k) ?_
    obtain ⟨T417, X417, e417, st417⟩ := getF X416 hx hZ hown (host := "") (Or.inl (hw _ (List.mem_of_getElem? (i := 44) rfl))) Via.refl e416 H2 (g := (mkF m 17 #[.val (.ref a1), .val (.int (2 : Int32)), .unset] [(.ref a1)])) rfl rfl (hb hby d10_17)
    refine own_go st417 ?_
    refine own_go (fun t k => XS.iloadN X417.here hx rfl (hb hby d10_20) rfl  k) ?_
    refine own_callV X417 hx hZ (y := (⟨"java/lang/String", "charAt", "(I)C"⟩ : MethodName)) (z := (⟨"java/lang/String", "charAt", "(I)C"⟩ : MethodName)) (W := 0) (a := sx) (argsL := [(.int (2 : Int32))]) (rest := []) hown (hw _ (List.mem_of_getElem? (i := 72) rfl)) (hw _ (List.mem_of_getElem? (i := 73) rfl)) (notFace_of_selects (args := #[]) (mvT hZ (hw _ (List.mem_of_getElem? (i := 75) rfl)))) (hw _ (List.mem_of_getElem? (i := 75) rfl)) (hw _ (List.mem_of_getElem? (i := 74) rfl)) (by decide) (own_bk (rm_ch2 l Z a0 hw sx g1 g3 tx kx _ _ _ h0 n0 H6 H7 hg5 H9 hr H11 H12 H13 H14 hy.2.2) hZ (hw _ (List.mem_of_getElem? (i := 76) rfl)) (hw _ (List.mem_of_getElem? (i := 7) rfl)) (by decide) (by decide)) e417 H11 (g := (mkF m 21 #[.val (.ref a1), .val (.int (2 : Int32)), .unset] [(.int (2 : Int32)), (.ref sx)])) rfl (by rw [hml]; rfl) (lenOf pd_0 rfl) rfl (by show 2 * 0 + _ ≤ _; exact Nat.le_of_eq rfl) (hb hby d10_21) (by decide) (by decide) (fun v418 T418 h418 L418 X418 e418 q418 => ?_)
    obtain ⟨rfl, M418, s418⟩ := q418
    replace e418 : T418.heap = h0 := e418.trans s418
    have N418 := Fr.app N416 M418
    refine own_callS X418 hx hZ (y := (⟨"com/example/profitmine/profitmine/io/Fields", "isBlank", "(C)Z"⟩ : MethodName)) (W := 0) (argsL := [(.int y2)]) (rest := []) hown (hw _ (List.mem_of_getElem? (i := 94) rfl)) (hw _ (List.mem_of_getElem? (i := 95) rfl)) (hw _ (List.mem_of_getElem? (i := 36) rfl)) (hw _ (List.mem_of_getElem? (i := 96) rfl)) (by decide) (own_bk (rm_ib l Z a0 hw y2 h0 n0 ) hZ (hw _ (List.mem_of_getElem? (i := 96) rfl)) (hw _ (List.mem_of_getElem? (i := 36) rfl)) (by decide) (by decide)) e418 (g := (mkF m 24 #[.val (.ref a1), .val (.int (2 : Int32)), .unset] [(.int y2)])) rfl (by rw [hml]; rfl) (lenOf pd_14 rfl) rfl (by show 2 * 0 + _ ≤ _; exact Nat.le_of_eq rfl) (hb hby d10_24) (by decide) (by decide) (fun v419 T419 h419 L419 X419 e419 q419 => ?_)
    obtain ⟨rfl, M419, s419⟩ := q419
    replace e419 : T419.heap = h0 := e419.trans s419
    have N419 := Fr.app N418 M419
    show own_Run p e below Φ (T419.setTop (mkF m 27 #[.val (.ref a1), .val (.int (2 : Int32)), .unset] [(.int (own_blk y2))]))
    by_cases hc27 : (own_blk y2) = (0 : Int32)
    · refine own_go (fun t k => XS.ifYes X419.here hx rfl (pc0 := 27) (pc' := 36) rfl (hb hby d10_27) rfl ((if0 _ _).trans (teq hc27).1) (by decide) (by decide) k) ?_
      exact J36_1 (2 : Int32) T419 h0 _ _ _ X419 e419 N419 (by decide) (by decide) K0 H1 H2 H3 H4 H5 H6 H11 H12 H13 H14 (by decide)
    · refine own_go (fun t k => XS.ifNo X419.here hx rfl (hb hby d10_27) rfl ((if0 _ _).trans (feq hc27).1) k) ?_
      refine own_go (fun t k => XS.iinc X419.here hx rfl (hb hby d10_30) rfl (l' := #[.val (.ref a1), .val (.int ((2 : Int32) + (1 : Int32))), .unset]) rfl k) ?_
      show own_Run p e below Φ (T419.setTop (mkF m 33 #[.val (.ref a1), .val (.int ((2 : Int32) + (1 : Int32))), .unset] []))
      rw [show ((2 : Int32) + (1 : Int32)) = (3 : Int32) from by decide]
      show own_Run p e below Φ (T419.setTop (mkF m 33 #[.val (.ref a1), .val (.int (3 : Int32)), .unset] []))
      refine own_go (fun t k => XS.goto X419.here hx rfl (pc0 := 33) (pc' := 5) rfl (hb hby d10_33) (by decide) (by decide) k) ?_
      refine own_go (fun t k => XS.iloadN X419.here hx rfl (hb hby d10_5) rfl  k) ?_
      refine own_go (fun t k => XS.aloadN X419.here hx rfl (hb hby d10_6) rfl rfl  k) ?_
      obtain ⟨T420, X420, e420, st420⟩ := getF X419 hx hZ hown (host := "") (Or.inl (hw _ (List.mem_of_getElem? (i := 44) rfl))) Via.refl e419 H2 (g := (mkF m 7 #[.val (.ref a1), .val (.int (3 : Int32)), .unset] [(.ref a1), (.int (3 : Int32))])) rfl rfl (hb hby d10_7)
      refine own_go st420 ?_
      refine own_callV X420 hx hZ (y := (⟨"java/lang/String", "length", "()I"⟩ : MethodName)) (z := (⟨"java/lang/String", "length", "()I"⟩ : MethodName)) (W := 1) (a := sx) (argsL := []) (rest := [(.int (3 : Int32))]) hown (hw _ (List.mem_of_getElem? (i := 62) rfl)) (hw _ (List.mem_of_getElem? (i := 63) rfl)) (notFace_of_selects (args := #[]) (mvT hZ (hw _ (List.mem_of_getElem? (i := 65) rfl)))) (hw _ (List.mem_of_getElem? (i := 65) rfl)) (hw _ (List.mem_of_getElem? (i := 64) rfl)) (by decide) (own_bk (rm_le l Z a0 hw sx g1 tx kx _ _ _ h0 n0 H6 H7 hg5 H11 H12 H13 H14) hZ (hw _ (List.mem_of_getElem? (i := 66) rfl)) (hw _ (List.mem_of_getElem? (i := 7) rfl)) (by decide) (by decide)) e420 H11 (g := (mkF m 10 #[.val (.ref a1), .val (.int (3 : Int32)), .unset] [(.ref sx), (.int (3 : Int32))])) rfl (by rw [hml]; rfl) (lenOf pd_9 rfl) rfl (by show 2 * 0 + _ ≤ _; exact Nat.le_of_eq rfl) (hb hby d10_10) (by decide) (by decide) (fun v421 T421 h421 L421 X421 e421 q421 => ?_)
      obtain ⟨rfl, M421, s421⟩ := q421
      replace e421 : T421.heap = h0 := e421.trans s421
      have N421 := Fr.app N419 M421
      refine own_go (fun t k => XS.icmpYes X421.here hx rfl (pc0 := 13) (pc' := 36) rfl (hb hby d10_13) rfl (flt (by decide : ¬ ((3 : Int32) < (3 : Int32)))).2.1 (by decide) (by decide) k) ?_
      exact J36_1 (3 : Int32) T421 h0 _ _ _ X421 e421 N421 (by decide) (by decide) K0 H1 H2 H3 H4 H5 H6 H11 H12 H13 H14 (by decide)
  · skip
    show own_Run p e below Φ (s₁.setTop (mkF m 0 #[.val (.ref a1), .unset, .unset] []))
    refine own_go (fun t k => XS.aloadN X0.here hx rfl (hb hby d10_0) rfl rfl  k) ?_
    obtain ⟨T422, X422, e422, st422⟩ := getF X0 hx hZ hown (host := "") (Or.inl (hw _ (List.mem_of_getElem? (i := 55) rfl))) Via.refl e0 H4 (g := (mkF m 1 #[.val (.ref a1), .unset, .unset] [(.ref a1)])) rfl rfl (hb hby d10_1)
    refine own_go st422 ?_
    refine own_go (fun t k => XS.istoreN X422.here hx rfl (hb hby d10_4) rfl (l' := #[.val (.ref a1), .val (.int (3 : Int32)), .unset]) rfl k) ?_
    refine own_go (fun t k => XS.iloadN X422.here hx rfl (hb hby d10_5) rfl  k) ?_
    show own_Run p e below Φ (T422.setTop (mkF m 6 #[.val (.ref a1), .val (.int (3 : Int32)), .unset] [(.int (3 : Int32))]))
    refine own_go (fun t k => XS.aloadN X422.here hx rfl (hb hby d10_6) rfl rfl  k) ?_
    obtain ⟨T423, X423, e423, st423⟩ := getF X422 hx hZ hown (host := "") (Or.inl (hw _ (List.mem_of_getElem? (i := 44) rfl))) Via.refl e422 H2 (g := (mkF m 7 #[.val (.ref a1), .val (.int (3 : Int32)), .unset] [(.ref a1), (.int (3 : Int32))])) rfl rfl (hb hby d10_7)
    refine own_go st423 ?_
    refine own_callV X423 hx hZ (y := (⟨"java/lang/String", "length", "()I"⟩ : MethodName)) (z := (⟨"java/lang/String", "length", "()I"⟩ : MethodName)) (W := 1) (a := sx) (argsL := []) (rest := [(.int (3 : Int32))]) hown (hw _ (List.mem_of_getElem? (i := 62) rfl)) (hw _ (List.mem_of_getElem? (i := 63) rfl)) (notFace_of_selects (args := #[]) (mvT hZ (hw _ (List.mem_of_getElem? (i := 65) rfl)))) (hw _ (List.mem_of_getElem? (i := 65) rfl)) (hw _ (List.mem_of_getElem? (i := 64) rfl)) (by decide) (own_bk (rm_le l Z a0 hw sx g1 tx kx _ _ _ h0 n0 H6 H7 hg5 H11 H12 H13 H14) hZ (hw _ (List.mem_of_getElem? (i := 66) rfl)) (hw _ (List.mem_of_getElem? (i := 7) rfl)) (by decide) (by decide)) e423 H11 (g := (mkF m 10 #[.val (.ref a1), .val (.int (3 : Int32)), .unset] [(.ref sx), (.int (3 : Int32))])) rfl (by rw [hml]; rfl) (lenOf pd_9 rfl) rfl (by show 2 * 0 + _ ≤ _; exact Nat.le_of_eq rfl) (hb hby d10_10) (by decide) (by decide) (fun v424 T424 h424 L424 X424 e424 q424 => ?_)
    obtain ⟨rfl, M424, s424⟩ := q424
    replace e424 : T424.heap = h0 := e424.trans s424
    have N424 := Fr.app N0 M424
    refine own_go (fun t k => XS.icmpYes X424.here hx rfl (pc0 := 13) (pc' := 36) rfl (hb hby d10_13) rfl (flt (by decide : ¬ ((3 : Int32) < (3 : Int32)))).2.1 (by decide) (by decide) k) ?_
    exact J36_1 (3 : Int32) T424 h0 _ _ _ X424 e424 N424 (by decide) (by decide) K0 H1 H2 H3 H4 H5 H6 H11 H12 H13 H14 (by decide)
set_option maxRecDepth 65536 in
set_option maxHeartbeats 40000000 in
theorem rm_nb (l : Launch) (Z : State) (a0 : Array Value) (hw : ∀ d ∈ tables_1, d.before a0 Z = true) (a1 : Addr) (sx : Addr) (tx : Addr) (kx : ClassId) (y0 : Int32) (y1 : Int32) (y2 : Int32) (g1 : Int32) (g3 : Value) (sn : Int32) (h0 : Heap) (n0 : Nat) (H1 : Exa Z h0 a1 "com/example/profitmine/profitmine/io/Fields") (H2 : Fld Z h0 a1 "com/example/profitmine/profitmine/io/Fields" "line" "Ljava/lang/String;" (.ref sx)) (H3 : Fld Z h0 a1 "com/example/profitmine/profitmine/io/Fields" "start" "I" (.int sn)) (H4 : Fld Z h0 a1 "com/example/profitmine/profitmine/io/Fields" "end" "I" (.int (0 : Int32))) (H5 : Fld Z h0 a1 "com/example/profitmine/profitmine/io/Fields" "count" "I" (.int (0 : Int32))) (H6 : Old Z n0 h0) (H7 : Sta Z Z.heap "java/lang/String" "COMPACT_STRINGS" "Z" (.int g1)) (hg5 : ¬ (g1 = (0 : Int32))) (H9 : Sta Z Z.heap "jdk/internal/util/Preconditions" "SIOOBE_FORMATTER" "Ljava/util/function/BiFunction;" g3) (hr : g3.isRef = true) (H11 : Exa Z h0 sx "java/lang/String") (H12 : Fld Z h0 sx "java/lang/String" "value" "[B" (.ref tx)) (H13 : Fld Z h0 sx "java/lang/String" "coder" "B" (.int (0 : Int32))) (H14 : Arv Z h0 tx kx .byte (3 : Int32) [(.int (y0.toInt8.toInt32)), (.int (y1.toInt8.toInt32)), (.int (y2.toInt8.toInt32))] (.int 0)) (H15 : n0 ≤ a1) (H16 : sx ≠ a1) (H17 : tx ≠ a1) (hy : (0 ≤ y0.toInt ∧ y0.toInt ≤ 255) ∧ (0 ≤ y1.toInt ∧ y1.toInt ≤ 255) ∧ (0 ≤ y2.toInt ∧ y2.toInt ≤ 255)) :
    own_Met l Z (⟨"com/example/profitmine/profitmine/io/Fields", "next", "()Z"⟩ : MethodName) prog_26_method_3_code 3 (some .boolean) ({ frames := 4, cells := 0, slots := 0, locals := 53 } : Room) #[(.ref a1)] h0 (fun v h L => v = some (.int (own_fd y0 y1 y2)) ∧ Fr n0 L ∧ Keep h0 h [a1] ∧ Fld Z h a1 "com/example/profitmine/profitmine/io/Fields" "line" "Ljava/lang/String;" (.ref sx) ∧ Fld Z h a1 "com/example/profitmine/profitmine/io/Fields" "start" "I" (.int (own_es y0 y1 y2)) ∧ Fld Z h a1 "com/example/profitmine/profitmine/io/Fields" "end" "I" (.int (own_ee y0 y1 y2))) := by
  intro ws
  refine MetFree.of_bodySF (plainFor_of_name pn_c4) hisR ?_
  intro p e s m args below meth c s₁ Bd hml0 hP hK
  obtain ⟨rfl, hZ, hh⟩ := hP
  have hx := Bd.exec
  have hby := Bd.bytes
  have hml : c.maxLocals = 3 := hml0
  have hown : s.vm.findClass "com/example/profitmine/profitmine/io/Fields" = some m.cls := findClass_of_methodNamed Bd.named
  have hnm := (name_of_methodNamed Bd.named Bd.method).1
  have hlk : meth.locks = false := Bd.notSynchronized
  have X0 : Stand p l e ({ frames := 4, cells := 0, slots := 0, locals := 53 } : Room) s m #[(.ref a1)] below meth c s₁ [] 0 0 := Stand.of_body Bd
  have e0 : s₁.heap = h0 := by rw [← hh, Bd.state]; rfl
  have N0 := Fr.nil n0
  refine own_body (Q := fun v h L => v = some (.int (own_fd y0 y1 y2)) ∧ Fr n0 L ∧ Keep h0 h [a1] ∧ Fld Z h a1 "com/example/profitmine/profitmine/io/Fields" "line" "Ljava/lang/String;" (.ref sx) ∧ Fld Z h a1 "com/example/profitmine/profitmine/io/Fields" "start" "I" (.int (own_es y0 y1 y2)) ∧ Fld Z h a1 "com/example/profitmine/profitmine/io/Fields" "end" "I" (.int (own_ee y0 y1 y2))) ?_
  generalize hΦ : own_Fin s below _ _ _ = Φ
  refine own_cast (ef_10_R m a1) ?_
  have K0 := Keep.refl h0 [a1]
  show own_Run p e below Φ (s₁.setTop (mkF m 0 #[.val (.ref a1), .unset, .unset] []))
  refine own_go (fun t k => XS.aloadN X0.here hx rfl (hb hby d10_0) rfl rfl  k) ?_
  obtain ⟨T1, X1, e1, st1⟩ := getF X0 hx hZ hown (host := "") (Or.inl (hw _ (List.mem_of_getElem? (i := 55) rfl))) Via.refl e0 H4 (g := (mkF m 1 #[.val (.ref a1), .unset, .unset] [(.ref a1)])) rfl rfl (hb hby d10_1)
  refine own_go st1 ?_
  refine own_go (fun t k => XS.istoreN X1.here hx rfl (hb hby d10_4) rfl (l' := #[.val (.ref a1), .val (.int (0 : Int32)), .unset]) rfl k) ?_
  refine own_go (fun t k => XS.iloadN X1.here hx rfl (hb hby d10_5) rfl  k) ?_
  refine own_go (fun t k => XS.aloadN X1.here hx rfl (hb hby d10_6) rfl rfl  k) ?_
  obtain ⟨T2, X2, e2, st2⟩ := getF X1 hx hZ hown (host := "") (Or.inl (hw _ (List.mem_of_getElem? (i := 44) rfl))) Via.refl e1 H2 (g := (mkF m 7 #[.val (.ref a1), .val (.int (0 : Int32)), .unset] [(.ref a1), (.int (0 : Int32))])) rfl rfl (hb hby d10_7)
  refine own_go st2 ?_
  refine own_callV X2 hx hZ (y := (⟨"java/lang/String", "length", "()I"⟩ : MethodName)) (z := (⟨"java/lang/String", "length", "()I"⟩ : MethodName)) (W := 1) (a := sx) (argsL := []) (rest := [(.int (0 : Int32))]) hown (hw _ (List.mem_of_getElem? (i := 62) rfl)) (hw _ (List.mem_of_getElem? (i := 63) rfl)) (notFace_of_selects (args := #[]) (mvT hZ (hw _ (List.mem_of_getElem? (i := 65) rfl)))) (hw _ (List.mem_of_getElem? (i := 65) rfl)) (hw _ (List.mem_of_getElem? (i := 64) rfl)) (by decide) (own_bk (rm_le l Z a0 hw sx g1 tx kx _ _ _ h0 n0 H6 H7 hg5 H11 H12 H13 H14) hZ (hw _ (List.mem_of_getElem? (i := 66) rfl)) (hw _ (List.mem_of_getElem? (i := 7) rfl)) (by decide) (by decide)) e2 H11 (g := (mkF m 10 #[.val (.ref a1), .val (.int (0 : Int32)), .unset] [(.ref sx), (.int (0 : Int32))])) rfl (by rw [hml]; rfl) (lenOf pd_9 rfl) rfl (by show 2 * 0 + _ ≤ _; exact Nat.le_of_eq rfl) (hb hby d10_10) (by decide) (by decide) (fun v3 T3 h3 L3 X3 e3 q3 => ?_)
  obtain ⟨rfl, M3, s3⟩ := q3
  replace e3 : T3.heap = h0 := e3.trans s3
  have N3 := Fr.app N0 M3
  refine own_go (fun t k => XS.icmpNo X3.here hx rfl (hb hby d10_13) rfl (tlt (by decide : (0 : Int32) < (3 : Int32))).2.1 k) ?_
  refine own_go (fun t k => XS.aloadN X3.here hx rfl (hb hby d10_16) rfl rfl  k) ?_
  show own_Run p e below Φ (T3.setTop (mkF m 17 #[.val (.ref a1), .val (.int (0 : Int32)), .unset] [(.ref a1)]))
  obtain ⟨T4, X4, e4, st4⟩ := getF X3 hx hZ hown (host := "") (Or.inl (hw _ (List.mem_of_getElem? (i := 44) rfl))) Via.refl e3 H2 (g := (mkF m 17 #[.val (.ref a1), .val (.int (0 : Int32)), .unset] [(.ref a1)])) rfl rfl (hb hby d10_17)
  refine own_go st4 ?_
  refine own_go (fun t k => XS.iloadN X4.here hx rfl (hb hby d10_20) rfl  k) ?_
  refine own_callV X4 hx hZ (y := (⟨"java/lang/String", "charAt", "(I)C"⟩ : MethodName)) (z := (⟨"java/lang/String", "charAt", "(I)C"⟩ : MethodName)) (W := 0) (a := sx) (argsL := [(.int (0 : Int32))]) (rest := []) hown (hw _ (List.mem_of_getElem? (i := 72) rfl)) (hw _ (List.mem_of_getElem? (i := 73) rfl)) (notFace_of_selects (args := #[]) (mvT hZ (hw _ (List.mem_of_getElem? (i := 75) rfl)))) (hw _ (List.mem_of_getElem? (i := 75) rfl)) (hw _ (List.mem_of_getElem? (i := 74) rfl)) (by decide) (own_bk (rm_ch0 l Z a0 hw sx g1 g3 tx kx _ _ _ h0 n0 H6 H7 hg5 H9 hr H11 H12 H13 H14 hy.1) hZ (hw _ (List.mem_of_getElem? (i := 76) rfl)) (hw _ (List.mem_of_getElem? (i := 7) rfl)) (by decide) (by decide)) e4 H11 (g := (mkF m 21 #[.val (.ref a1), .val (.int (0 : Int32)), .unset] [(.int (0 : Int32)), (.ref sx)])) rfl (by rw [hml]; rfl) (lenOf pd_0 rfl) rfl (by show 2 * 0 + _ ≤ _; exact Nat.le_of_eq rfl) (hb hby d10_21) (by decide) (by decide) (fun v5 T5 h5 L5 X5 e5 q5 => ?_)
  obtain ⟨rfl, M5, s5⟩ := q5
  replace e5 : T5.heap = h0 := e5.trans s5
  have N5 := Fr.app N3 M5
  refine own_callS X5 hx hZ (y := (⟨"com/example/profitmine/profitmine/io/Fields", "isBlank", "(C)Z"⟩ : MethodName)) (W := 0) (argsL := [(.int y0)]) (rest := []) hown (hw _ (List.mem_of_getElem? (i := 94) rfl)) (hw _ (List.mem_of_getElem? (i := 95) rfl)) (hw _ (List.mem_of_getElem? (i := 36) rfl)) (hw _ (List.mem_of_getElem? (i := 96) rfl)) (by decide) (own_bk (rm_ib l Z a0 hw y0 h0 n0 ) hZ (hw _ (List.mem_of_getElem? (i := 96) rfl)) (hw _ (List.mem_of_getElem? (i := 36) rfl)) (by decide) (by decide)) e5 (g := (mkF m 24 #[.val (.ref a1), .val (.int (0 : Int32)), .unset] [(.int y0)])) rfl (by rw [hml]; rfl) (lenOf pd_14 rfl) rfl (by show 2 * 0 + _ ≤ _; exact Nat.le_of_eq rfl) (hb hby d10_24) (by decide) (by decide) (fun v6 T6 h6 L6 X6 e6 q6 => ?_)
  obtain ⟨rfl, M6, s6⟩ := q6
  replace e6 : T6.heap = h0 := e6.trans s6
  have N6 := Fr.app N5 M6
  by_cases hc27 : (own_blk y0) = (0 : Int32)
  · refine own_go (fun t k => XS.ifYes X6.here hx rfl (pc0 := 27) (pc' := 36) rfl (hb hby d10_27) rfl ((if0 _ _).trans (teq hc27).1) (by decide) (by decide) k) ?_
    refine own_go (fun t k => XS.iloadN X6.here hx rfl (hb hby d10_36) rfl  k) ?_
    refine own_go (fun t k => XS.aloadN X6.here hx rfl (hb hby d10_37) rfl rfl  k) ?_
    obtain ⟨T7, X7, e7, st7⟩ := getF X6 hx hZ hown (host := "") (Or.inl (hw _ (List.mem_of_getElem? (i := 44) rfl))) Via.refl e6 H2 (g := (mkF m 38 #[.val (.ref a1), .val (.int (0 : Int32)), .unset] [(.ref a1), (.int (0 : Int32))])) rfl rfl (hb hby d10_38)
    refine own_go st7 ?_
    refine own_callV X7 hx hZ (y := (⟨"java/lang/String", "length", "()I"⟩ : MethodName)) (z := (⟨"java/lang/String", "length", "()I"⟩ : MethodName)) (W := 1) (a := sx) (argsL := []) (rest := [(.int (0 : Int32))]) hown (hw _ (List.mem_of_getElem? (i := 62) rfl)) (hw _ (List.mem_of_getElem? (i := 63) rfl)) (notFace_of_selects (args := #[]) (mvT hZ (hw _ (List.mem_of_getElem? (i := 65) rfl)))) (hw _ (List.mem_of_getElem? (i := 65) rfl)) (hw _ (List.mem_of_getElem? (i := 64) rfl)) (by decide) (own_bk (rm_le l Z a0 hw sx g1 tx kx _ _ _ h0 n0 H6 H7 hg5 H11 H12 H13 H14) hZ (hw _ (List.mem_of_getElem? (i := 66) rfl)) (hw _ (List.mem_of_getElem? (i := 7) rfl)) (by decide) (by decide)) e7 H11 (g := (mkF m 41 #[.val (.ref a1), .val (.int (0 : Int32)), .unset] [(.ref sx), (.int (0 : Int32))])) rfl (by rw [hml]; rfl) (lenOf pd_9 rfl) rfl (by show 2 * 0 + _ ≤ _; exact Nat.le_of_eq rfl) (hb hby d10_41) (by decide) (by decide) (fun v8 T8 h8 L8 X8 e8 q8 => ?_)
    obtain ⟨rfl, M8, s8⟩ := q8
    replace e8 : T8.heap = h0 := e8.trans s8
    have N8 := Fr.app N6 M8
    show own_Run p e below Φ (T8.setTop (mkF m 44 #[.val (.ref a1), .val (.int (0 : Int32)), .unset] [(.int (3 : Int32)), (.int (0 : Int32))]))
    refine own_go (fun t k => XS.icmpNo X8.here hx rfl (hb hby d10_44) rfl (tlt (by decide : (0 : Int32) < (3 : Int32))).2.1 k) ?_
    refine own_go (fun t k => XS.aloadN X8.here hx rfl (hb hby d10_47) rfl rfl  k) ?_
    obtain ⟨T9, X9, e9, st9⟩ := getF X8 hx hZ hown (host := "") (Or.inl (hw _ (List.mem_of_getElem? (i := 51) rfl))) Via.refl e8 H5 (g := (mkF m 48 #[.val (.ref a1), .val (.int (0 : Int32)), .unset] [(.ref a1)])) rfl rfl (hb hby d10_48)
    refine own_go st9 ?_
    refine own_go (fun t k => XS.ifNo X9.here hx rfl (hb hby d10_51) rfl ((if0 _ _).trans (flt (by decide : ¬ ((0 : Int32) < (0 : Int32)))).2.2.1) k) ?_
    refine own_go (fun t k => XS.aloadN X9.here hx rfl (hb hby d10_54) rfl rfl  k) ?_
    obtain ⟨T10, X10, e10, st10⟩ := getF X9 hx hZ hown (host := "") (Or.inl (hw _ (List.mem_of_getElem? (i := 44) rfl))) Via.refl e9 H2 (g := (mkF m 55 #[.val (.ref a1), .val (.int (0 : Int32)), .unset] [(.ref a1)])) rfl rfl (hb hby d10_55)
    refine own_go st10 ?_
    refine own_go (fun t k => XS.iloadN X10.here hx rfl (hb hby d10_58) rfl  k) ?_
    refine own_callV X10 hx hZ (y := (⟨"java/lang/String", "charAt", "(I)C"⟩ : MethodName)) (z := (⟨"java/lang/String", "charAt", "(I)C"⟩ : MethodName)) (W := 0) (a := sx) (argsL := [(.int (0 : Int32))]) (rest := []) hown (hw _ (List.mem_of_getElem? (i := 72) rfl)) (hw _ (List.mem_of_getElem? (i := 73) rfl)) (notFace_of_selects (args := #[]) (mvT hZ (hw _ (List.mem_of_getElem? (i := 75) rfl)))) (hw _ (List.mem_of_getElem? (i := 75) rfl)) (hw _ (List.mem_of_getElem? (i := 74) rfl)) (by decide) (own_bk (rm_ch0 l Z a0 hw sx g1 g3 tx kx _ _ _ h0 n0 H6 H7 hg5 H9 hr H11 H12 H13 H14 hy.1) hZ (hw _ (List.mem_of_getElem? (i := 76) rfl)) (hw _ (List.mem_of_getElem? (i := 7) rfl)) (by decide) (by decide)) e10 H11 (g := (mkF m 59 #[.val (.ref a1), .val (.int (0 : Int32)), .unset] [(.int (0 : Int32)), (.ref sx)])) rfl (by rw [hml]; rfl) (lenOf pd_0 rfl) rfl (by show 2 * 0 + _ ≤ _; exact Nat.le_of_eq rfl) (hb hby d10_59) (by decide) (by decide) (fun v11 T11 h11 L11 X11 e11 q11 => ?_)
    obtain ⟨rfl, M11, s11⟩ := q11
    replace e11 : T11.heap = h0 := e11.trans s11
    have N11 := Fr.app N8 M11
    refine own_go (fun t k => XS.bipush X11.here hx rfl (hb hby d10_62) k) ?_
    show own_Run p e below Φ (T11.setTop (mkF m 64 #[.val (.ref a1), .val (.int (0 : Int32)), .unset] [(.int (35 : Int32)), (.int y0)]))
    by_cases hc64 : y0 = (35 : Int32)
    · refine own_go (fun t k => XS.icmpYes X11.here hx rfl (pc0 := 64) (pc' := 71) rfl (hb hby d10_64) rfl (teq hc64).1 (by decide) (by decide) k) ?_
      refine own_go (fun t k => XS.iconst X11.here hx rfl (hb hby d10_71) k) ?_
      refine own_go (fun t k => XS.istoreN X11.here hx rfl (hb hby d10_72) rfl (l' := #[.val (.ref a1), .val (.int (0 : Int32)), .val (.int (0 : Int32))]) rfl k) ?_
      refine own_go (fun t k => XS.iloadN X11.here hx rfl (hb hby d10_73) rfl  k) ?_
      refine own_go (fun t k => XS.ifYes X11.here hx rfl (pc0 := 74) (pc' := 144) rfl (hb hby d10_74) rfl ((if0 _ _).trans (teq (rfl : (0 : Int32) = (0 : Int32))).1) (by decide) (by decide) k) ?_
      refine own_go (fun t k => XS.aloadN X11.here hx rfl (hb hby d10_144) rfl rfl  k) ?_
      refine own_go (fun t k => XS.aloadN X11.here hx rfl (hb hby d10_145) rfl rfl  k) ?_
      obtain ⟨T12, X12, e12, st12⟩ := getF X11 hx hZ hown (host := "") (Or.inl (hw _ (List.mem_of_getElem? (i := 44) rfl))) Via.refl e11 H2 (g := (mkF m 146 #[.val (.ref a1), .val (.int (0 : Int32)), .val (.int (0 : Int32))] [(.ref a1), (.ref a1)])) rfl rfl (hb hby d10_146)
      refine own_go st12 ?_
      refine own_callV X12 hx hZ (y := (⟨"java/lang/String", "length", "()I"⟩ : MethodName)) (z := (⟨"java/lang/String", "length", "()I"⟩ : MethodName)) (W := 1) (a := sx) (argsL := []) (rest := [(.ref a1)]) hown (hw _ (List.mem_of_getElem? (i := 62) rfl)) (hw _ (List.mem_of_getElem? (i := 63) rfl)) (notFace_of_selects (args := #[]) (mvT hZ (hw _ (List.mem_of_getElem? (i := 65) rfl)))) (hw _ (List.mem_of_getElem? (i := 65) rfl)) (hw _ (List.mem_of_getElem? (i := 64) rfl)) (by decide) (own_bk (rm_le l Z a0 hw sx g1 tx kx _ _ _ h0 n0 H6 H7 hg5 H11 H12 H13 H14) hZ (hw _ (List.mem_of_getElem? (i := 66) rfl)) (hw _ (List.mem_of_getElem? (i := 7) rfl)) (by decide) (by decide)) e12 H11 (g := (mkF m 149 #[.val (.ref a1), .val (.int (0 : Int32)), .val (.int (0 : Int32))] [(.ref sx), (.ref a1)])) rfl (by rw [hml]; rfl) (lenOf pd_9 rfl) rfl (by show 2 * 0 + _ ≤ _; exact Nat.le_of_eq rfl) (hb hby d10_149) (by decide) (by decide) (fun v13 T13 h13 L13 X13 e13 q13 => ?_)
      obtain ⟨rfl, M13, s13⟩ := q13
      replace e13 : T13.heap = h0 := e13.trans s13
      have N13 := Fr.app N11 M13
      show own_Run p e below Φ (T13.setTop (mkF m 152 #[.val (.ref a1), .val (.int (0 : Int32)), .val (.int (0 : Int32))] [(.int (3 : Int32)), (.ref a1)]))
      obtain ⟨T14, h14, X14, e14, W14, st14⟩ := putF X13 hx hZ hown (host := "") (Or.inl (hw _ (List.mem_of_getElem? (i := 53) rfl))) Via.refl e13 H3 H1 (Or.inl (hw _ (List.mem_of_getElem? (i := 54) rfl))) (hw _ (List.mem_of_getElem? (i := 35) rfl)) (ty := .int) (by decide) rfl rfl (g := (mkF m 152 #[.val (.ref a1), .val (.int (0 : Int32)), .val (.int (0 : Int32))] [(.int (3 : Int32)), (.ref a1)])) rfl rfl (hb hby d10_152)
      refine own_go st14 ?_
      have G14 : Fld Z h14 a1 "com/example/profitmine/profitmine/io/Fields" "start" "I" (.int (3 : Int32)) := H3.same W14
      have N14 := Fr.snoc X14 N13 H15
      refine own_go (fun t k => XS.aloadN X14.here hx rfl (hb hby d10_155) rfl rfl  k) ?_
      refine own_go (fun t k => XS.aloadN X14.here hx rfl (hb hby d10_156) rfl rfl  k) ?_
      have F15 : Fld Z h14 a1 "com/example/profitmine/profitmine/io/Fields" "line" "Ljava/lang/String;" (.ref sx) := (H2.other W14 (Or.inr (slot_ne (Or.inl (hw _ (List.mem_of_getElem? (i := 45) rfl))) (Or.inl (hw _ (List.mem_of_getElem? (i := 54) rfl))) (by decide) (t := (.object "java/lang/String")) (t' := .int) (by decide) (by decide))))
      obtain ⟨T16, X16, e16, st16⟩ := getF X14 hx hZ hown (host := "") (Or.inl (hw _ (List.mem_of_getElem? (i := 44) rfl))) Via.refl e14 F15 (g := (mkF m 157 #[.val (.ref a1), .val (.int (0 : Int32)), .val (.int (0 : Int32))] [(.ref a1), (.ref a1)])) rfl rfl (hb hby d10_157)
      refine own_go st16 ?_
      have F17 : Old Z n0 h14 := (H6.wr W14 H15)
      have F18 : Exa Z h14 sx "java/lang/String" := (H11.wr W14)
      have F19 : Fld Z h14 sx "java/lang/String" "value" "[B" (.ref tx) := (H12.other W14 (Or.inl H16))
      have F20 : Fld Z h14 sx "java/lang/String" "coder" "B" (.int (0 : Int32)) := (H13.other W14 (Or.inl H16))
      have F21 : Arv Z h14 tx kx .byte (3 : Int32) [(.int (y0.toInt8.toInt32)), (.int (y1.toInt8.toInt32)), (.int (y2.toInt8.toInt32))] (.int 0) := (H14.other W14 H17)
      refine own_callV X16 hx hZ (y := (⟨"java/lang/String", "length", "()I"⟩ : MethodName)) (z := (⟨"java/lang/String", "length", "()I"⟩ : MethodName)) (W := 1) (a := sx) (argsL := []) (rest := [(.ref a1)]) hown (hw _ (List.mem_of_getElem? (i := 62) rfl)) (hw _ (List.mem_of_getElem? (i := 63) rfl)) (notFace_of_selects (args := #[]) (mvT hZ (hw _ (List.mem_of_getElem? (i := 65) rfl)))) (hw _ (List.mem_of_getElem? (i := 65) rfl)) (hw _ (List.mem_of_getElem? (i := 64) rfl)) (by decide) (own_bk (rm_le l Z a0 hw sx g1 tx kx _ _ _ h14 n0 F17 H7 hg5 F18 F19 F20 F21) hZ (hw _ (List.mem_of_getElem? (i := 66) rfl)) (hw _ (List.mem_of_getElem? (i := 7) rfl)) (by decide) (by decide)) e16 F18 (g := (mkF m 160 #[.val (.ref a1), .val (.int (0 : Int32)), .val (.int (0 : Int32))] [(.ref sx), (.ref a1)])) rfl (by rw [hml]; rfl) (lenOf pd_9 rfl) rfl (by show 2 * 0 + _ ≤ _; exact Nat.le_of_eq rfl) (hb hby d10_160) (by decide) (by decide) (fun v22 T22 h22 L22 X22 e22 q22 => ?_)
      obtain ⟨rfl, M22, s22⟩ := q22
      replace e22 : T22.heap = h14 := e22.trans s22
      have N22 := Fr.app N14 M22
      have F23 : Fld Z h14 a1 "com/example/profitmine/profitmine/io/Fields" "end" "I" (.int (0 : Int32)) := (H4.other W14 (Or.inr (slot_ne (Or.inl (hw _ (List.mem_of_getElem? (i := 56) rfl))) (Or.inl (hw _ (List.mem_of_getElem? (i := 54) rfl))) (by decide) (t := .int) (t' := .int) (by decide) (by decide))))
      have F24 : Exa Z h14 a1 "com/example/profitmine/profitmine/io/Fields" := (H1.wr W14)
      obtain ⟨T25, h25, X25, e25, W25, st25⟩ := putF X22 hx hZ hown (host := "") (Or.inl (hw _ (List.mem_of_getElem? (i := 55) rfl))) Via.refl e22 F23 F24 (Or.inl (hw _ (List.mem_of_getElem? (i := 56) rfl))) (hw _ (List.mem_of_getElem? (i := 35) rfl)) (ty := .int) (by decide) rfl rfl (g := (mkF m 163 #[.val (.ref a1), .val (.int (0 : Int32)), .val (.int (0 : Int32))] [(.int (3 : Int32)), (.ref a1)])) rfl rfl (hb hby d10_163)
      refine own_go st25 ?_
      have G25 : Fld Z h25 a1 "com/example/profitmine/profitmine/io/Fields" "end" "I" (.int (3 : Int32)) := F23.same W25
      have N25 := Fr.snoc X25 N22 H15
      refine own_go (fun t k => XS.iloadN X25.here hx rfl (hb hby d10_166) rfl  k) ?_
      have F26 : Keep h0 h25 [a1] := ((K0.wr W14 (Or.inl (List.mem_of_getElem? (i := 0) rfl))).wr W25 (Or.inl (List.mem_of_getElem? (i := 0) rfl)))
      have F27 : Fld Z h25 a1 "com/example/profitmine/profitmine/io/Fields" "line" "Ljava/lang/String;" (.ref sx) := (F15.other W25 (Or.inr (slot_ne (Or.inl (hw _ (List.mem_of_getElem? (i := 45) rfl))) (Or.inl (hw _ (List.mem_of_getElem? (i := 56) rfl))) (by decide) (t := (.object "java/lang/String")) (t' := .int) (by decide) (by decide))))
      have F28 : Fld Z h25 a1 "com/example/profitmine/profitmine/io/Fields" "start" "I" (.int (3 : Int32)) := (G14.other W25 (Or.inr (slot_ne (Or.inl (hw _ (List.mem_of_getElem? (i := 54) rfl))) (Or.inl (hw _ (List.mem_of_getElem? (i := 56) rfl))) (by decide) (t := .int) (t' := .int) (by decide) (by decide))))
      subst hΦ
      exact own_retN X25 hx (t := .boolean) Bd.returns (by simp) hlk (hb hby d10_167) e25 ⟨(by unfold own_fd; rw [if_pos hc27, if_pos hc64]; first | done | rfl), N25, F26, F27, (by unfold own_es; rw [if_pos hc27, if_pos hc64]; exact F28), (by unfold own_ee; rw [if_pos hc27, if_pos hc64]; exact G25)⟩ (by decide) (by decide)
    · refine own_go (fun t k => XS.icmpNo X11.here hx rfl (hb hby d10_64) rfl (feq hc64).1 k) ?_
      refine own_go (fun t k => XS.iconst X11.here hx rfl (hb hby d10_67) k) ?_
      show own_Run p e below Φ (T11.setTop (mkF m 68 #[.val (.ref a1), .val (.int (0 : Int32)), .unset] [(.int (1 : Int32))]))
      refine own_go (fun t k => XS.goto X11.here hx rfl (pc0 := 68) (pc' := 72) rfl (hb hby d10_68) (by decide) (by decide) k) ?_
      refine own_go (fun t k => XS.istoreN X11.here hx rfl (hb hby d10_72) rfl (l' := #[.val (.ref a1), .val (.int (0 : Int32)), .val (.int (1 : Int32))]) rfl k) ?_
      refine own_go (fun t k => XS.iloadN X11.here hx rfl (hb hby d10_73) rfl  k) ?_
      refine own_go (fun t k => XS.ifNo X11.here hx rfl (hb hby d10_74) rfl ((if0 _ _).trans (feq (by decide : ¬ ((1 : Int32) = (0 : Int32)))).1) k) ?_
      refine own_go (fun t k => XS.aloadN X11.here hx rfl (hb hby d10_77) rfl rfl  k) ?_
      refine own_go (fun t k => XS.iloadN X11.here hx rfl (hb hby d10_78) rfl  k) ?_
      obtain ⟨T29, h29, X29, e29, W29, st29⟩ := putF X11 hx hZ hown (host := "") (Or.inl (hw _ (List.mem_of_getElem? (i := 53) rfl))) Via.refl e11 H3 H1 (Or.inl (hw _ (List.mem_of_getElem? (i := 54) rfl))) (hw _ (List.mem_of_getElem? (i := 35) rfl)) (ty := .int) (by decide) rfl rfl (g := (mkF m 79 #[.val (.ref a1), .val (.int (0 : Int32)), .val (.int (1 : Int32))] [(.int (0 : Int32)), (.ref a1)])) rfl rfl (hb hby d10_79)
      refine own_go st29 ?_
      have G29 : Fld Z h29 a1 "com/example/profitmine/profitmine/io/Fields" "start" "I" (.int (0 : Int32)) := H3.same W29
      have N29 := Fr.snoc X29 N11 H15
      refine own_go (fun t k => XS.aloadN X29.here hx rfl (hb hby d10_82) rfl rfl  k) ?_
      refine own_go (fun t k => XS.iloadN X29.here hx rfl (hb hby d10_83) rfl  k) ?_
      show own_Run p e below Φ (T29.setTop (mkF m 84 #[.val (.ref a1), .val (.int (0 : Int32)), .val (.int (1 : Int32))] [(.int (0 : Int32)), (.ref a1)]))
      have F30 : Fld Z h29 a1 "com/example/profitmine/profitmine/io/Fields" "end" "I" (.int (0 : Int32)) := (H4.other W29 (Or.inr (slot_ne (Or.inl (hw _ (List.mem_of_getElem? (i := 56) rfl))) (Or.inl (hw _ (List.mem_of_getElem? (i := 54) rfl))) (by decide) (t := .int) (t' := .int) (by decide) (by decide))))
      have F31 : Exa Z h29 a1 "com/example/profitmine/profitmine/io/Fields" := (H1.wr W29)
      obtain ⟨T32, h32, X32, e32, W32, st32⟩ := putF X29 hx hZ hown (host := "") (Or.inl (hw _ (List.mem_of_getElem? (i := 55) rfl))) Via.refl e29 F30 F31 (Or.inl (hw _ (List.mem_of_getElem? (i := 56) rfl))) (hw _ (List.mem_of_getElem? (i := 35) rfl)) (ty := .int) (by decide) rfl rfl (g := (mkF m 84 #[.val (.ref a1), .val (.int (0 : Int32)), .val (.int (1 : Int32))] [(.int (0 : Int32)), (.ref a1)])) rfl rfl (hb hby d10_84)
      refine own_go st32 ?_
      have G32 : Fld Z h32 a1 "com/example/profitmine/profitmine/io/Fields" "end" "I" (.int (0 : Int32)) := F30.same W32
      have N32 := Fr.snoc X32 N29 H15
      refine own_go (fun t k => XS.aloadN X32.here hx rfl (hb hby d10_87) rfl rfl  k) ?_
      obtain ⟨T33, X33, e33, st33⟩ := getF X32 hx hZ hown (host := "") (Or.inl (hw _ (List.mem_of_getElem? (i := 55) rfl))) Via.refl e32 G32 (g := (mkF m 88 #[.val (.ref a1), .val (.int (0 : Int32)), .val (.int (1 : Int32))] [(.ref a1)])) rfl rfl (hb hby d10_88)
      refine own_go st33 ?_
      refine own_go (fun t k => XS.aloadN X33.here hx rfl (hb hby d10_91) rfl rfl  k) ?_
      have F34 : Fld Z h32 a1 "com/example/profitmine/profitmine/io/Fields" "line" "Ljava/lang/String;" (.ref sx) := ((H2.other W29 (Or.inr (slot_ne (Or.inl (hw _ (List.mem_of_getElem? (i := 45) rfl))) (Or.inl (hw _ (List.mem_of_getElem? (i := 54) rfl))) (by decide) (t := (.object "java/lang/String")) (t' := .int) (by decide) (by decide)))).other W32 (Or.inr (slot_ne (Or.inl (hw _ (List.mem_of_getElem? (i := 45) rfl))) (Or.inl (hw _ (List.mem_of_getElem? (i := 56) rfl))) (by decide) (t := (.object "java/lang/String")) (t' := .int) (by decide) (by decide))))
      obtain ⟨T35, X35, e35, st35⟩ := getF X33 hx hZ hown (host := "") (Or.inl (hw _ (List.mem_of_getElem? (i := 44) rfl))) Via.refl e33 F34 (g := (mkF m 92 #[.val (.ref a1), .val (.int (0 : Int32)), .val (.int (1 : Int32))] [(.ref a1), (.int (0 : Int32))])) rfl rfl (hb hby d10_92)
      refine own_go st35 ?_
      have F36 : Old Z n0 h32 := ((H6.wr W29 H15).wr W32 H15)
      have F37 : Exa Z h32 sx "java/lang/String" := ((H11.wr W29).wr W32)
      have F38 : Fld Z h32 sx "java/lang/String" "value" "[B" (.ref tx) := ((H12.other W29 (Or.inl H16)).other W32 (Or.inl H16))
      have F39 : Fld Z h32 sx "java/lang/String" "coder" "B" (.int (0 : Int32)) := ((H13.other W29 (Or.inl H16)).other W32 (Or.inl H16))
      have F40 : Arv Z h32 tx kx .byte (3 : Int32) [(.int (y0.toInt8.toInt32)), (.int (y1.toInt8.toInt32)), (.int (y2.toInt8.toInt32))] (.int 0) := ((H14.other W29 H17).other W32 H17)
      refine own_callV X35 hx hZ (y := (⟨"java/lang/String", "length", "()I"⟩ : MethodName)) (z := (⟨"java/lang/String", "length", "()I"⟩ : MethodName)) (W := 1) (a := sx) (argsL := []) (rest := [(.int (0 : Int32))]) hown (hw _ (List.mem_of_getElem? (i := 62) rfl)) (hw _ (List.mem_of_getElem? (i := 63) rfl)) (notFace_of_selects (args := #[]) (mvT hZ (hw _ (List.mem_of_getElem? (i := 65) rfl)))) (hw _ (List.mem_of_getElem? (i := 65) rfl)) (hw _ (List.mem_of_getElem? (i := 64) rfl)) (by decide) (own_bk (rm_le l Z a0 hw sx g1 tx kx _ _ _ h32 n0 F36 H7 hg5 F37 F38 F39 F40) hZ (hw _ (List.mem_of_getElem? (i := 66) rfl)) (hw _ (List.mem_of_getElem? (i := 7) rfl)) (by decide) (by decide)) e35 F37 (g := (mkF m 95 #[.val (.ref a1), .val (.int (0 : Int32)), .val (.int (1 : Int32))] [(.ref sx), (.int (0 : Int32))])) rfl (by rw [hml]; rfl) (lenOf pd_9 rfl) rfl (by show 2 * 0 + _ ≤ _; exact Nat.le_of_eq rfl) (hb hby d10_95) (by decide) (by decide) (fun v41 T41 h41 L41 X41 e41 q41 => ?_)
      obtain ⟨rfl, M41, s41⟩ := q41
      replace e41 : T41.heap = h32 := e41.trans s41
      have N41 := Fr.app N32 M41
      refine own_go (fun t k => XS.icmpNo X41.here hx rfl (hb hby d10_98) rfl (tlt (by decide : (0 : Int32) < (3 : Int32))).2.1 k) ?_
      refine own_go (fun t k => XS.aloadN X41.here hx rfl (hb hby d10_101) rfl rfl  k) ?_
      obtain ⟨T42, X42, e42, st42⟩ := getF X41 hx hZ hown (host := "") (Or.inl (hw _ (List.mem_of_getElem? (i := 44) rfl))) Via.refl e41 F34 (g := (mkF m 102 #[.val (.ref a1), .val (.int (0 : Int32)), .val (.int (1 : Int32))] [(.ref a1)])) rfl rfl (hb hby d10_102)
      refine own_go st42 ?_
      show own_Run p e below Φ (T42.setTop (mkF m 105 #[.val (.ref a1), .val (.int (0 : Int32)), .val (.int (1 : Int32))] [(.ref sx)]))
      refine own_go (fun t k => XS.aloadN X42.here hx rfl (hb hby d10_105) rfl rfl  k) ?_
      obtain ⟨T43, X43, e43, st43⟩ := getF X42 hx hZ hown (host := "") (Or.inl (hw _ (List.mem_of_getElem? (i := 55) rfl))) Via.refl e42 G32 (g := (mkF m 106 #[.val (.ref a1), .val (.int (0 : Int32)), .val (.int (1 : Int32))] [(.ref a1), (.ref sx)])) rfl rfl (hb hby d10_106)
      refine own_go st43 ?_
      refine own_callV X43 hx hZ (y := (⟨"java/lang/String", "charAt", "(I)C"⟩ : MethodName)) (z := (⟨"java/lang/String", "charAt", "(I)C"⟩ : MethodName)) (W := 0) (a := sx) (argsL := [(.int (0 : Int32))]) (rest := []) hown (hw _ (List.mem_of_getElem? (i := 72) rfl)) (hw _ (List.mem_of_getElem? (i := 73) rfl)) (notFace_of_selects (args := #[]) (mvT hZ (hw _ (List.mem_of_getElem? (i := 75) rfl)))) (hw _ (List.mem_of_getElem? (i := 75) rfl)) (hw _ (List.mem_of_getElem? (i := 74) rfl)) (by decide) (own_bk (rm_ch0 l Z a0 hw sx g1 g3 tx kx _ _ _ h32 n0 F36 H7 hg5 H9 hr F37 F38 F39 F40 hy.1) hZ (hw _ (List.mem_of_getElem? (i := 76) rfl)) (hw _ (List.mem_of_getElem? (i := 7) rfl)) (by decide) (by decide)) e43 F37 (g := (mkF m 109 #[.val (.ref a1), .val (.int (0 : Int32)), .val (.int (1 : Int32))] [(.int (0 : Int32)), (.ref sx)])) rfl (by rw [hml]; rfl) (lenOf pd_0 rfl) rfl (by show 2 * 0 + _ ≤ _; exact Nat.le_of_eq rfl) (hb hby d10_109) (by decide) (by decide) (fun v44 T44 h44 L44 X44 e44 q44 => ?_)
      obtain ⟨rfl, M44, s44⟩ := q44
      replace e44 : T44.heap = h32 := e44.trans s44
      have N44 := Fr.app N41 M44
      refine own_callS X44 hx hZ (y := (⟨"com/example/profitmine/profitmine/io/Fields", "isBlank", "(C)Z"⟩ : MethodName)) (W := 0) (argsL := [(.int y0)]) (rest := []) hown (hw _ (List.mem_of_getElem? (i := 94) rfl)) (hw _ (List.mem_of_getElem? (i := 95) rfl)) (hw _ (List.mem_of_getElem? (i := 36) rfl)) (hw _ (List.mem_of_getElem? (i := 96) rfl)) (by decide) (own_bk (rm_ib l Z a0 hw y0 h32 n0 ) hZ (hw _ (List.mem_of_getElem? (i := 96) rfl)) (hw _ (List.mem_of_getElem? (i := 36) rfl)) (by decide) (by decide)) e44 (g := (mkF m 112 #[.val (.ref a1), .val (.int (0 : Int32)), .val (.int (1 : Int32))] [(.int y0)])) rfl (by rw [hml]; rfl) (lenOf pd_14 rfl) rfl (by show 2 * 0 + _ ≤ _; exact Nat.le_of_eq rfl) (hb hby d10_112) (by decide) (by decide) (fun v45 T45 h45 L45 X45 e45 q45 => ?_)
      obtain ⟨rfl, M45, s45⟩ := q45
      replace e45 : T45.heap = h32 := e45.trans s45
      have N45 := Fr.app N44 M45
      refine own_go (fun t k => XS.ifNo X45.here hx rfl (hb hby d10_115) rfl ((if0 _ _).trans (teq hc27).2) k) ?_
      refine own_go (fun t k => XS.aloadN X45.here hx rfl (hb hby d10_118) rfl rfl  k) ?_
      refine own_go (fun t k => XS.dup X45.here hx rfl (hb hby d10_119) rfl rfl k) ?_
      obtain ⟨T46, X46, e46, st46⟩ := getF X45 hx hZ hown (host := "") (Or.inl (hw _ (List.mem_of_getElem? (i := 55) rfl))) Via.refl e45 G32 (g := (mkF m 120 #[.val (.ref a1), .val (.int (0 : Int32)), .val (.int (1 : Int32))] [(.ref a1), (.ref a1)])) rfl rfl (hb hby d10_120)
      refine own_go st46 ?_
      refine own_go (fun t k => XS.iconst X46.here hx rfl (hb hby d10_123) k) ?_
      show own_Run p e below Φ (T46.setTop (mkF m 124 #[.val (.ref a1), .val (.int (0 : Int32)), .val (.int (1 : Int32))] [(.int (1 : Int32)), (.int (0 : Int32)), (.ref a1)]))
      refine own_go (fun t k => XS.iadd X46.here hx rfl (hb hby d10_124) rfl k) ?_
      show own_Run p e below Φ (T46.setTop (mkF m 125 #[.val (.ref a1), .val (.int (0 : Int32)), .val (.int (1 : Int32))] [(.int ((0 : Int32) + (1 : Int32))), (.ref a1)]))
      rw [show ((0 : Int32) + (1 : Int32)) = (1 : Int32) from by decide]
      show own_Run p e below Φ (T46.setTop (mkF m 125 #[.val (.ref a1), .val (.int (0 : Int32)), .val (.int (1 : Int32))] [(.int (1 : Int32)), (.ref a1)]))
      have F47 : Exa Z h32 a1 "com/example/profitmine/profitmine/io/Fields" := (F31.wr W32)
      obtain ⟨T48, h48, X48, e48, W48, st48⟩ := putF X46 hx hZ hown (host := "") (Or.inl (hw _ (List.mem_of_getElem? (i := 55) rfl))) Via.refl e46 G32 F47 (Or.inl (hw _ (List.mem_of_getElem? (i := 56) rfl))) (hw _ (List.mem_of_getElem? (i := 35) rfl)) (ty := .int) (by decide) rfl rfl (g := (mkF m 125 #[.val (.ref a1), .val (.int (0 : Int32)), .val (.int (1 : Int32))] [(.int (1 : Int32)), (.ref a1)])) rfl rfl (hb hby d10_125)
      refine own_go st48 ?_
      have G48 : Fld Z h48 a1 "com/example/profitmine/profitmine/io/Fields" "end" "I" (.int (1 : Int32)) := G32.same W48
      have N48 := Fr.snoc X48 N45 H15
      refine own_go (fun t k => XS.goto X48.here hx rfl (pc0 := 128) (pc' := 87) rfl (hb hby d10_128) (by decide) (by decide) k) ?_
      refine own_go (fun t k => XS.aloadN X48.here hx rfl (hb hby d10_87) rfl rfl  k) ?_
      obtain ⟨T49, X49, e49, st49⟩ := getF X48 hx hZ hown (host := "") (Or.inl (hw _ (List.mem_of_getElem? (i := 55) rfl))) Via.refl e48 G48 (g := (mkF m 88 #[.val (.ref a1), .val (.int (0 : Int32)), .val (.int (1 : Int32))] [(.ref a1)])) rfl rfl (hb hby d10_88)
      refine own_go st49 ?_
      refine own_go (fun t k => XS.aloadN X49.here hx rfl (hb hby d10_91) rfl rfl  k) ?_
      have F50 : Fld Z h48 a1 "com/example/profitmine/profitmine/io/Fields" "line" "Ljava/lang/String;" (.ref sx) := (F34.other W48 (Or.inr (slot_ne (Or.inl (hw _ (List.mem_of_getElem? (i := 45) rfl))) (Or.inl (hw _ (List.mem_of_getElem? (i := 56) rfl))) (by decide) (t := (.object "java/lang/String")) (t' := .int) (by decide) (by decide))))
      obtain ⟨T51, X51, e51, st51⟩ := getF X49 hx hZ hown (host := "") (Or.inl (hw _ (List.mem_of_getElem? (i := 44) rfl))) Via.refl e49 F50 (g := (mkF m 92 #[.val (.ref a1), .val (.int (0 : Int32)), .val (.int (1 : Int32))] [(.ref a1), (.int (1 : Int32))])) rfl rfl (hb hby d10_92)
      refine own_go st51 ?_
      have F52 : Old Z n0 h48 := (F36.wr W48 H15)
      have F53 : Exa Z h48 sx "java/lang/String" := (F37.wr W48)
      have F54 : Fld Z h48 sx "java/lang/String" "value" "[B" (.ref tx) := (F38.other W48 (Or.inl H16))
      have F55 : Fld Z h48 sx "java/lang/String" "coder" "B" (.int (0 : Int32)) := (F39.other W48 (Or.inl H16))
      have F56 : Arv Z h48 tx kx .byte (3 : Int32) [(.int (y0.toInt8.toInt32)), (.int (y1.toInt8.toInt32)), (.int (y2.toInt8.toInt32))] (.int 0) := (F40.other W48 H17)
      refine own_callV X51 hx hZ (y := (⟨"java/lang/String", "length", "()I"⟩ : MethodName)) (z := (⟨"java/lang/String", "length", "()I"⟩ : MethodName)) (W := 1) (a := sx) (argsL := []) (rest := [(.int (1 : Int32))]) hown (hw _ (List.mem_of_getElem? (i := 62) rfl)) (hw _ (List.mem_of_getElem? (i := 63) rfl)) (notFace_of_selects (args := #[]) (mvT hZ (hw _ (List.mem_of_getElem? (i := 65) rfl)))) (hw _ (List.mem_of_getElem? (i := 65) rfl)) (hw _ (List.mem_of_getElem? (i := 64) rfl)) (by decide) (own_bk (rm_le l Z a0 hw sx g1 tx kx _ _ _ h48 n0 F52 H7 hg5 F53 F54 F55 F56) hZ (hw _ (List.mem_of_getElem? (i := 66) rfl)) (hw _ (List.mem_of_getElem? (i := 7) rfl)) (by decide) (by decide)) e51 F53 (g := (mkF m 95 #[.val (.ref a1), .val (.int (0 : Int32)), .val (.int (1 : Int32))] [(.ref sx), (.int (1 : Int32))])) rfl (by rw [hml]; rfl) (lenOf pd_9 rfl) rfl (by show 2 * 0 + _ ≤ _; exact Nat.le_of_eq rfl) (hb hby d10_95) (by decide) (by decide) (fun v57 T57 h57 L57 X57 e57 q57 => ?_)
      obtain ⟨rfl, M57, s57⟩ := q57
      replace e57 : T57.heap = h48 := e57.trans s57
      have N57 := Fr.app N48 M57
      refine own_go (fun t k => XS.icmpNo X57.here hx rfl (hb hby d10_98) rfl (tlt (by decide : (1 : Int32) < (3 : Int32))).2.1 k) ?_
      refine own_go (fun t k => XS.aloadN X57.here hx rfl (hb hby d10_101) rfl rfl  k) ?_
      show own_Run p e below Φ (T57.setTop (mkF m 102 #[.val (.ref a1), .val (.int (0 : Int32)), .val (.int (1 : Int32))] [(.ref a1)]))
      obtain ⟨T58, X58, e58, st58⟩ := getF X57 hx hZ hown (host := "") (Or.inl (hw _ (List.mem_of_getElem? (i := 44) rfl))) Via.refl e57 F50 (g := (mkF m 102 #[.val (.ref a1), .val (.int (0 : Int32)), .val (.int (1 : Int32))] [(.ref a1)])) rfl rfl (hb hby d10_102)
      refine own_go st58 ?_
      refine own_go (fun t k => XS.aloadN X58.here hx rfl (hb hby d10_105) rfl rfl  k) ?_
      obtain ⟨T59, X59, e59, st59⟩ := getF X58 hx hZ hown (host := "") (Or.inl (hw _ (List.mem_of_getElem? (i := 55) rfl))) Via.refl e58 G48 (g := (mkF m 106 #[.val (.ref a1), .val (.int (0 : Int32)), .val (.int (1 : Int32))] [(.ref a1), (.ref sx)])) rfl rfl (hb hby d10_106)
      refine own_go st59 ?_
      refine own_callV X59 hx hZ (y := (⟨"java/lang/String", "charAt", "(I)C"⟩ : MethodName)) (z := (⟨"java/lang/String", "charAt", "(I)C"⟩ : MethodName)) (W := 0) (a := sx) (argsL := [(.int (1 : Int32))]) (rest := []) hown (hw _ (List.mem_of_getElem? (i := 72) rfl)) (hw _ (List.mem_of_getElem? (i := 73) rfl)) (notFace_of_selects (args := #[]) (mvT hZ (hw _ (List.mem_of_getElem? (i := 75) rfl)))) (hw _ (List.mem_of_getElem? (i := 75) rfl)) (hw _ (List.mem_of_getElem? (i := 74) rfl)) (by decide) (own_bk (rm_ch1 l Z a0 hw sx g1 g3 tx kx _ _ _ h48 n0 F52 H7 hg5 H9 hr F53 F54 F55 F56 hy.2.1) hZ (hw _ (List.mem_of_getElem? (i := 76) rfl)) (hw _ (List.mem_of_getElem? (i := 7) rfl)) (by decide) (by decide)) e59 F53 (g := (mkF m 109 #[.val (.ref a1), .val (.int (0 : Int32)), .val (.int (1 : Int32))] [(.int (1 : Int32)), (.ref sx)])) rfl (by rw [hml]; rfl) (lenOf pd_0 rfl) rfl (by show 2 * 0 + _ ≤ _; exact Nat.le_of_eq rfl) (hb hby d10_109) (by decide) (by decide) (fun v60 T60 h60 L60 X60 e60 q60 => ?_)
      obtain ⟨rfl, M60, s60⟩ := q60
      replace e60 : T60.heap = h48 := e60.trans s60
      have N60 := Fr.app N57 M60
      refine own_callS X60 hx hZ (y := (⟨"com/example/profitmine/profitmine/io/Fields", "isBlank", "(C)Z"⟩ : MethodName)) (W := 0) (argsL := [(.int y1)]) (rest := []) hown (hw _ (List.mem_of_getElem? (i := 94) rfl)) (hw _ (List.mem_of_getElem? (i := 95) rfl)) (hw _ (List.mem_of_getElem? (i := 36) rfl)) (hw _ (List.mem_of_getElem? (i := 96) rfl)) (by decide) (own_bk (rm_ib l Z a0 hw y1 h48 n0 ) hZ (hw _ (List.mem_of_getElem? (i := 96) rfl)) (hw _ (List.mem_of_getElem? (i := 36) rfl)) (by decide) (by decide)) e60 (g := (mkF m 112 #[.val (.ref a1), .val (.int (0 : Int32)), .val (.int (1 : Int32))] [(.int y1)])) rfl (by rw [hml]; rfl) (lenOf pd_14 rfl) rfl (by show 2 * 0 + _ ≤ _; exact Nat.le_of_eq rfl) (hb hby d10_112) (by decide) (by decide) (fun v61 T61 h61 L61 X61 e61 q61 => ?_)
      obtain ⟨rfl, M61, s61⟩ := q61
      replace e61 : T61.heap = h48 := e61.trans s61
      have N61 := Fr.app N60 M61
      by_cases hc115 : (own_blk y1) = (0 : Int32)
      · refine own_go (fun t k => XS.ifNo X61.here hx rfl (hb hby d10_115) rfl ((if0 _ _).trans (teq hc115).2) k) ?_
        refine own_go (fun t k => XS.aloadN X61.here hx rfl (hb hby d10_118) rfl rfl  k) ?_
        refine own_go (fun t k => XS.dup X61.here hx rfl (hb hby d10_119) rfl rfl k) ?_
        obtain ⟨T62, X62, e62, st62⟩ := getF X61 hx hZ hown (host := "") (Or.inl (hw _ (List.mem_of_getElem? (i := 55) rfl))) Via.refl e61 G48 (g := (mkF m 120 #[.val (.ref a1), .val (.int (0 : Int32)), .val (.int (1 : Int32))] [(.ref a1), (.ref a1)])) rfl rfl (hb hby d10_120)
        refine own_go st62 ?_
        show own_Run p e below Φ (T62.setTop (mkF m 123 #[.val (.ref a1), .val (.int (0 : Int32)), .val (.int (1 : Int32))] [(.int (1 : Int32)), (.ref a1)]))
        refine own_go (fun t k => XS.iconst X62.here hx rfl (hb hby d10_123) k) ?_
        refine own_go (fun t k => XS.iadd X62.here hx rfl (hb hby d10_124) rfl k) ?_
        show own_Run p e below Φ (T62.setTop (mkF m 125 #[.val (.ref a1), .val (.int (0 : Int32)), .val (.int (1 : Int32))] [(.int ((1 : Int32) + (1 : Int32))), (.ref a1)]))
        rw [show ((1 : Int32) + (1 : Int32)) = (2 : Int32) from by decide]
        show own_Run p e below Φ (T62.setTop (mkF m 125 #[.val (.ref a1), .val (.int (0 : Int32)), .val (.int (1 : Int32))] [(.int (2 : Int32)), (.ref a1)]))
        have F63 : Exa Z h48 a1 "com/example/profitmine/profitmine/io/Fields" := (F47.wr W48)
        obtain ⟨T64, h64, X64, e64, W64, st64⟩ := putF X62 hx hZ hown (host := "") (Or.inl (hw _ (List.mem_of_getElem? (i := 55) rfl))) Via.refl e62 G48 F63 (Or.inl (hw _ (List.mem_of_getElem? (i := 56) rfl))) (hw _ (List.mem_of_getElem? (i := 35) rfl)) (ty := .int) (by decide) rfl rfl (g := (mkF m 125 #[.val (.ref a1), .val (.int (0 : Int32)), .val (.int (1 : Int32))] [(.int (2 : Int32)), (.ref a1)])) rfl rfl (hb hby d10_125)
        refine own_go st64 ?_
        have G64 : Fld Z h64 a1 "com/example/profitmine/profitmine/io/Fields" "end" "I" (.int (2 : Int32)) := G48.same W64
        have N64 := Fr.snoc X64 N61 H15
        refine own_go (fun t k => XS.goto X64.here hx rfl (pc0 := 128) (pc' := 87) rfl (hb hby d10_128) (by decide) (by decide) k) ?_
        refine own_go (fun t k => XS.aloadN X64.here hx rfl (hb hby d10_87) rfl rfl  k) ?_
        obtain ⟨T65, X65, e65, st65⟩ := getF X64 hx hZ hown (host := "") (Or.inl (hw _ (List.mem_of_getElem? (i := 55) rfl))) Via.refl e64 G64 (g := (mkF m 88 #[.val (.ref a1), .val (.int (0 : Int32)), .val (.int (1 : Int32))] [(.ref a1)])) rfl rfl (hb hby d10_88)
        refine own_go st65 ?_
        refine own_go (fun t k => XS.aloadN X65.here hx rfl (hb hby d10_91) rfl rfl  k) ?_
        have F66 : Fld Z h64 a1 "com/example/profitmine/profitmine/io/Fields" "line" "Ljava/lang/String;" (.ref sx) := (F50.other W64 (Or.inr (slot_ne (Or.inl (hw _ (List.mem_of_getElem? (i := 45) rfl))) (Or.inl (hw _ (List.mem_of_getElem? (i := 56) rfl))) (by decide) (t := (.object "java/lang/String")) (t' := .int) (by decide) (by decide))))
        obtain ⟨T67, X67, e67, st67⟩ := getF X65 hx hZ hown (host := "") (Or.inl (hw _ (List.mem_of_getElem? (i := 44) rfl))) Via.refl e65 F66 (g := (mkF m 92 #[.val (.ref a1), .val (.int (0 : Int32)), .val (.int (1 : Int32))] [(.ref a1), (.int (2 : Int32))])) rfl rfl (hb hby d10_92)
        refine own_go st67 ?_
        have F68 : Old Z n0 h64 := (F52.wr W64 H15)
        have F69 : Exa Z h64 sx "java/lang/String" := (F53.wr W64)
        have F70 : Fld Z h64 sx "java/lang/String" "value" "[B" (.ref tx) := (F54.other W64 (Or.inl H16))
        have F71 : Fld Z h64 sx "java/lang/String" "coder" "B" (.int (0 : Int32)) := (F55.other W64 (Or.inl H16))
        have F72 : Arv Z h64 tx kx .byte (3 : Int32) [(.int (y0.toInt8.toInt32)), (.int (y1.toInt8.toInt32)), (.int (y2.toInt8.toInt32))] (.int 0) := (F56.other W64 H17)
        refine own_callV X67 hx hZ (y := (⟨"java/lang/String", "length", "()I"⟩ : MethodName)) (z := (⟨"java/lang/String", "length", "()I"⟩ : MethodName)) (W := 1) (a := sx) (argsL := []) (rest := [(.int (2 : Int32))]) hown (hw _ (List.mem_of_getElem? (i := 62) rfl)) (hw _ (List.mem_of_getElem? (i := 63) rfl)) (notFace_of_selects (args := #[]) (mvT hZ (hw _ (List.mem_of_getElem? (i := 65) rfl)))) (hw _ (List.mem_of_getElem? (i := 65) rfl)) (hw _ (List.mem_of_getElem? (i := 64) rfl)) (by decide) (own_bk (rm_le l Z a0 hw sx g1 tx kx _ _ _ h64 n0 F68 H7 hg5 F69 F70 F71 F72) hZ (hw _ (List.mem_of_getElem? (i := 66) rfl)) (hw _ (List.mem_of_getElem? (i := 7) rfl)) (by decide) (by decide)) e67 F69 (g := (mkF m 95 #[.val (.ref a1), .val (.int (0 : Int32)), .val (.int (1 : Int32))] [(.ref sx), (.int (2 : Int32))])) rfl (by rw [hml]; rfl) (lenOf pd_9 rfl) rfl (by show 2 * 0 + _ ≤ _; exact Nat.le_of_eq rfl) (hb hby d10_95) (by decide) (by decide) (fun v73 T73 h73 L73 X73 e73 q73 => ?_)
        obtain ⟨rfl, M73, s73⟩ := q73
        replace e73 : T73.heap = h64 := e73.trans s73
        have N73 := Fr.app N64 M73
        refine own_go (fun t k => XS.icmpNo X73.here hx rfl (hb hby d10_98) rfl (tlt (by decide : (2 : Int32) < (3 : Int32))).2.1 k) ?_
        refine own_go (fun t k => XS.aloadN X73.here hx rfl (hb hby d10_101) rfl rfl  k) ?_
        show own_Run p e below Φ (T73.setTop (mkF m 102 #[.val (.ref a1), .val (.int (0 : Int32)), .val (.int (1 : Int32))] [(.ref a1)]))
        obtain ⟨T74, X74, e74, st74⟩ := getF X73 hx hZ hown (host := "") (Or.inl (hw _ (List.mem_of_getElem? (i := 44) rfl))) Via.refl e73 F66 (g := (mkF m 102 #[.val (.ref a1), .val (.int (0 : Int32)), .val (.int (1 : Int32))] [(.ref a1)])) rfl rfl (hb hby d10_102)
        refine own_go st74 ?_
        refine own_go (fun t k => XS.aloadN X74.here hx rfl (hb hby d10_105) rfl rfl  k) ?_
        obtain ⟨T75, X75, e75, st75⟩ := getF X74 hx hZ hown (host := "") (Or.inl (hw _ (List.mem_of_getElem? (i := 55) rfl))) Via.refl e74 G64 (g := (mkF m 106 #[.val (.ref a1), .val (.int (0 : Int32)), .val (.int (1 : Int32))] [(.ref a1), (.ref sx)])) rfl rfl (hb hby d10_106)
        refine own_go st75 ?_
        refine own_callV X75 hx hZ (y := (⟨"java/lang/String", "charAt", "(I)C"⟩ : MethodName)) (z := (⟨"java/lang/String", "charAt", "(I)C"⟩ : MethodName)) (W := 0) (a := sx) (argsL := [(.int (2 : Int32))]) (rest := []) hown (hw _ (List.mem_of_getElem? (i := 72) rfl)) (hw _ (List.mem_of_getElem? (i := 73) rfl)) (notFace_of_selects (args := #[]) (mvT hZ (hw _ (List.mem_of_getElem? (i := 75) rfl)))) (hw _ (List.mem_of_getElem? (i := 75) rfl)) (hw _ (List.mem_of_getElem? (i := 74) rfl)) (by decide) (own_bk (rm_ch2 l Z a0 hw sx g1 g3 tx kx _ _ _ h64 n0 F68 H7 hg5 H9 hr F69 F70 F71 F72 hy.2.2) hZ (hw _ (List.mem_of_getElem? (i := 76) rfl)) (hw _ (List.mem_of_getElem? (i := 7) rfl)) (by decide) (by decide)) e75 F69 (g := (mkF m 109 #[.val (.ref a1), .val (.int (0 : Int32)), .val (.int (1 : Int32))] [(.int (2 : Int32)), (.ref sx)])) rfl (by rw [hml]; rfl) (lenOf pd_0 rfl) rfl (by show 2 * 0 + _ ≤ _; exact Nat.le_of_eq rfl) (hb hby d10_109) (by decide) (by decide) (fun v76 T76 h76 L76 X76 e76 q76 => ?_)
        obtain ⟨rfl, M76, s76⟩ := q76
        replace e76 : T76.heap = h64 := e76.trans s76
        have N76 := Fr.app N73 M76
        refine own_callS X76 hx hZ (y := (⟨"com/example/profitmine/profitmine/io/Fields", "isBlank", "(C)Z"⟩ : MethodName)) (W := 0) (argsL := [(.int y2)]) (rest := []) hown (hw _ (List.mem_of_getElem? (i := 94) rfl)) (hw _ (List.mem_of_getElem? (i := 95) rfl)) (hw _ (List.mem_of_getElem? (i := 36) rfl)) (hw _ (List.mem_of_getElem? (i := 96) rfl)) (by decide) (own_bk (rm_ib l Z a0 hw y2 h64 n0 ) hZ (hw _ (List.mem_of_getElem? (i := 96) rfl)) (hw _ (List.mem_of_getElem? (i := 36) rfl)) (by decide) (by decide)) e76 (g := (mkF m 112 #[.val (.ref a1), .val (.int (0 : Int32)), .val (.int (1 : Int32))] [(.int y2)])) rfl (by rw [hml]; rfl) (lenOf pd_14 rfl) rfl (by show 2 * 0 + _ ≤ _; exact Nat.le_of_eq rfl) (hb hby d10_112) (by decide) (by decide) (fun v77 T77 h77 L77 X77 e77 q77 => ?_)
        obtain ⟨rfl, M77, s77⟩ := q77
        replace e77 : T77.heap = h64 := e77.trans s77
        have N77 := Fr.app N76 M77
        by_cases hc115_2 : (own_blk y2) = (0 : Int32)
        · refine own_go (fun t k => XS.ifNo X77.here hx rfl (hb hby d10_115) rfl ((if0 _ _).trans (teq hc115_2).2) k) ?_
          refine own_go (fun t k => XS.aloadN X77.here hx rfl (hb hby d10_118) rfl rfl  k) ?_
          refine own_go (fun t k => XS.dup X77.here hx rfl (hb hby d10_119) rfl rfl k) ?_
          obtain ⟨T78, X78, e78, st78⟩ := getF X77 hx hZ hown (host := "") (Or.inl (hw _ (List.mem_of_getElem? (i := 55) rfl))) Via.refl e77 G64 (g := (mkF m 120 #[.val (.ref a1), .val (.int (0 : Int32)), .val (.int (1 : Int32))] [(.ref a1), (.ref a1)])) rfl rfl (hb hby d10_120)
          refine own_go st78 ?_
          show own_Run p e below Φ (T78.setTop (mkF m 123 #[.val (.ref a1), .val (.int (0 : Int32)), .val (.int (1 : Int32))] [(.int (2 : Int32)), (.ref a1)]))
          refine own_go (fun t k => XS.iconst X78.here hx rfl (hb hby d10_123) k) ?_
          refine own_go (fun t k => XS.iadd X78.here hx rfl (hb hby d10_124) rfl k) ?_
          show own_Run p e below Φ (T78.setTop (mkF m 125 #[.val (.ref a1), .val (.int (0 : Int32)), .val (.int (1 : Int32))] [(.int ((2 : Int32) + (1 : Int32))), (.ref a1)]))
          rw [show ((2 : Int32) + (1 : Int32)) = (3 : Int32) from by decide]
          show own_Run p e below Φ (T78.setTop (mkF m 125 #[.val (.ref a1), .val (.int (0 : Int32)), .val (.int (1 : Int32))] [(.int (3 : Int32)), (.ref a1)]))
          have F79 : Exa Z h64 a1 "com/example/profitmine/profitmine/io/Fields" := (F63.wr W64)
          obtain ⟨T80, h80, X80, e80, W80, st80⟩ := putF X78 hx hZ hown (host := "") (Or.inl (hw _ (List.mem_of_getElem? (i := 55) rfl))) Via.refl e78 G64 F79 (Or.inl (hw _ (List.mem_of_getElem? (i := 56) rfl))) (hw _ (List.mem_of_getElem? (i := 35) rfl)) (ty := .int) (by decide) rfl rfl (g := (mkF m 125 #[.val (.ref a1), .val (.int (0 : Int32)), .val (.int (1 : Int32))] [(.int (3 : Int32)), (.ref a1)])) rfl rfl (hb hby d10_125)
          refine own_go st80 ?_
          have G80 : Fld Z h80 a1 "com/example/profitmine/profitmine/io/Fields" "end" "I" (.int (3 : Int32)) := G64.same W80
          have N80 := Fr.snoc X80 N77 H15
          refine own_go (fun t k => XS.goto X80.here hx rfl (pc0 := 128) (pc' := 87) rfl (hb hby d10_128) (by decide) (by decide) k) ?_
          refine own_go (fun t k => XS.aloadN X80.here hx rfl (hb hby d10_87) rfl rfl  k) ?_
          obtain ⟨T81, X81, e81, st81⟩ := getF X80 hx hZ hown (host := "") (Or.inl (hw _ (List.mem_of_getElem? (i := 55) rfl))) Via.refl e80 G80 (g := (mkF m 88 #[.val (.ref a1), .val (.int (0 : Int32)), .val (.int (1 : Int32))] [(.ref a1)])) rfl rfl (hb hby d10_88)
          refine own_go st81 ?_
          refine own_go (fun t k => XS.aloadN X81.here hx rfl (hb hby d10_91) rfl rfl  k) ?_
          have F82 : Fld Z h80 a1 "com/example/profitmine/profitmine/io/Fields" "line" "Ljava/lang/String;" (.ref sx) := (F66.other W80 (Or.inr (slot_ne (Or.inl (hw _ (List.mem_of_getElem? (i := 45) rfl))) (Or.inl (hw _ (List.mem_of_getElem? (i := 56) rfl))) (by decide) (t := (.object "java/lang/String")) (t' := .int) (by decide) (by decide))))
          obtain ⟨T83, X83, e83, st83⟩ := getF X81 hx hZ hown (host := "") (Or.inl (hw _ (List.mem_of_getElem? (i := 44) rfl))) Via.refl e81 F82 (g := (mkF m 92 #[.val (.ref a1), .val (.int (0 : Int32)), .val (.int (1 : Int32))] [(.ref a1), (.int (3 : Int32))])) rfl rfl (hb hby d10_92)
          refine own_go st83 ?_
          have F84 : Old Z n0 h80 := (F68.wr W80 H15)
          have F85 : Exa Z h80 sx "java/lang/String" := (F69.wr W80)
          have F86 : Fld Z h80 sx "java/lang/String" "value" "[B" (.ref tx) := (F70.other W80 (Or.inl H16))
          have F87 : Fld Z h80 sx "java/lang/String" "coder" "B" (.int (0 : Int32)) := (F71.other W80 (Or.inl H16))
          have F88 : Arv Z h80 tx kx .byte (3 : Int32) [(.int (y0.toInt8.toInt32)), (.int (y1.toInt8.toInt32)), (.int (y2.toInt8.toInt32))] (.int 0) := (F72.other W80 H17)
          refine own_callV X83 hx hZ (y := (⟨"java/lang/String", "length", "()I"⟩ : MethodName)) (z := (⟨"java/lang/String", "length", "()I"⟩ : MethodName)) (W := 1) (a := sx) (argsL := []) (rest := [(.int (3 : Int32))]) hown (hw _ (List.mem_of_getElem? (i := 62) rfl)) (hw _ (List.mem_of_getElem? (i := 63) rfl)) (notFace_of_selects (args := #[]) (mvT hZ (hw _ (List.mem_of_getElem? (i := 65) rfl)))) (hw _ (List.mem_of_getElem? (i := 65) rfl)) (hw _ (List.mem_of_getElem? (i := 64) rfl)) (by decide) (own_bk (rm_le l Z a0 hw sx g1 tx kx _ _ _ h80 n0 F84 H7 hg5 F85 F86 F87 F88) hZ (hw _ (List.mem_of_getElem? (i := 66) rfl)) (hw _ (List.mem_of_getElem? (i := 7) rfl)) (by decide) (by decide)) e83 F85 (g := (mkF m 95 #[.val (.ref a1), .val (.int (0 : Int32)), .val (.int (1 : Int32))] [(.ref sx), (.int (3 : Int32))])) rfl (by rw [hml]; rfl) (lenOf pd_9 rfl) rfl (by show 2 * 0 + _ ≤ _; exact Nat.le_of_eq rfl) (hb hby d10_95) (by decide) (by decide) (fun v89 T89 h89 L89 X89 e89 q89 => ?_)
          obtain ⟨rfl, M89, s89⟩ := q89
          replace e89 : T89.heap = h80 := e89.trans s89
          have N89 := Fr.app N80 M89
          refine own_go (fun t k => XS.icmpYes X89.here hx rfl (pc0 := 98) (pc' := 131) rfl (hb hby d10_98) rfl (flt (by decide : ¬ ((3 : Int32) < (3 : Int32)))).2.1 (by decide) (by decide) k) ?_
          refine own_go (fun t k => XS.aloadN X89.here hx rfl (hb hby d10_131) rfl rfl  k) ?_
          show own_Run p e below Φ (T89.setTop (mkF m 132 #[.val (.ref a1), .val (.int (0 : Int32)), .val (.int (1 : Int32))] [(.ref a1)]))
          refine own_go (fun t k => XS.dup X89.here hx rfl (hb hby d10_132) rfl rfl k) ?_
          have F90 : Fld Z h80 a1 "com/example/profitmine/profitmine/io/Fields" "count" "I" (.int (0 : Int32)) := (((((H5.other W29 (Or.inr (slot_ne (Or.inl (hw _ (List.mem_of_getElem? (i := 52) rfl))) (Or.inl (hw _ (List.mem_of_getElem? (i := 54) rfl))) (by decide) (t := .int) (t' := .int) (by decide) (by decide)))).other W32 (Or.inr (slot_ne (Or.inl (hw _ (List.mem_of_getElem? (i := 52) rfl))) (Or.inl (hw _ (List.mem_of_getElem? (i := 56) rfl))) (by decide) (t := .int) (t' := .int) (by decide) (by decide)))).other W48 (Or.inr (slot_ne (Or.inl (hw _ (List.mem_of_getElem? (i := 52) rfl))) (Or.inl (hw _ (List.mem_of_getElem? (i := 56) rfl))) (by decide) (t := .int) (t' := .int) (by decide) (by decide)))).other W64 (Or.inr (slot_ne (Or.inl (hw _ (List.mem_of_getElem? (i := 52) rfl))) (Or.inl (hw _ (List.mem_of_getElem? (i := 56) rfl))) (by decide) (t := .int) (t' := .int) (by decide) (by decide)))).other W80 (Or.inr (slot_ne (Or.inl (hw _ (List.mem_of_getElem? (i := 52) rfl))) (Or.inl (hw _ (List.mem_of_getElem? (i := 56) rfl))) (by decide) (t := .int) (t' := .int) (by decide) (by decide))))
          obtain ⟨T91, X91, e91, st91⟩ := getF X89 hx hZ hown (host := "") (Or.inl (hw _ (List.mem_of_getElem? (i := 51) rfl))) Via.refl e89 F90 (g := (mkF m 133 #[.val (.ref a1), .val (.int (0 : Int32)), .val (.int (1 : Int32))] [(.ref a1), (.ref a1)])) rfl rfl (hb hby d10_133)
          refine own_go st91 ?_
          refine own_go (fun t k => XS.iconst X91.here hx rfl (hb hby d10_136) k) ?_
          refine own_go (fun t k => XS.iadd X91.here hx rfl (hb hby d10_137) rfl k) ?_
          show own_Run p e below Φ (T91.setTop (mkF m 138 #[.val (.ref a1), .val (.int (0 : Int32)), .val (.int (1 : Int32))] [(.int ((0 : Int32) + (1 : Int32))), (.ref a1)]))
          rw [show ((0 : Int32) + (1 : Int32)) = (1 : Int32) from by decide]
          show own_Run p e below Φ (T91.setTop (mkF m 138 #[.val (.ref a1), .val (.int (0 : Int32)), .val (.int (1 : Int32))] [(.int (1 : Int32)), (.ref a1)]))
          have F92 : Exa Z h80 a1 "com/example/profitmine/profitmine/io/Fields" := (F79.wr W80)
          obtain ⟨T93, h93, X93, e93, W93, st93⟩ := putF X91 hx hZ hown (host := "") (Or.inl (hw _ (List.mem_of_getElem? (i := 51) rfl))) Via.refl e91 F90 F92 (Or.inl (hw _ (List.mem_of_getElem? (i := 52) rfl))) (hw _ (List.mem_of_getElem? (i := 35) rfl)) (ty := .int) (by decide) rfl rfl (g := (mkF m 138 #[.val (.ref a1), .val (.int (0 : Int32)), .val (.int (1 : Int32))] [(.int (1 : Int32)), (.ref a1)])) rfl rfl (hb hby d10_138)
          refine own_go st93 ?_
          have G93 : Fld Z h93 a1 "com/example/profitmine/profitmine/io/Fields" "count" "I" (.int (1 : Int32)) := F90.same W93
          have N93 := Fr.snoc X93 N89 H15
          refine own_go (fun t k => XS.goto X93.here hx rfl (pc0 := 141) (pc' := 166) rfl (hb hby d10_141) (by decide) (by decide) k) ?_
          refine own_go (fun t k => XS.iloadN X93.here hx rfl (hb hby d10_166) rfl  k) ?_
          have F94 : Keep h0 h93 [a1] := ((((((K0.wr W29 (Or.inl (List.mem_of_getElem? (i := 0) rfl))).wr W32 (Or.inl (List.mem_of_getElem? (i := 0) rfl))).wr W48 (Or.inl (List.mem_of_getElem? (i := 0) rfl))).wr W64 (Or.inl (List.mem_of_getElem? (i := 0) rfl))).wr W80 (Or.inl (List.mem_of_getElem? (i := 0) rfl))).wr W93 (Or.inl (List.mem_of_getElem? (i := 0) rfl)))
          have F95 : Fld Z h93 a1 "com/example/profitmine/profitmine/io/Fields" "line" "Ljava/lang/String;" (.ref sx) := (F82.other W93 (Or.inr (slot_ne (Or.inl (hw _ (List.mem_of_getElem? (i := 45) rfl))) (Or.inl (hw _ (List.mem_of_getElem? (i := 52) rfl))) (by decide) (t := (.object "java/lang/String")) (t' := .int) (by decide) (by decide))))
          have F96 : Fld Z h93 a1 "com/example/profitmine/profitmine/io/Fields" "start" "I" (.int (0 : Int32)) := (((((G29.other W32 (Or.inr (slot_ne (Or.inl (hw _ (List.mem_of_getElem? (i := 54) rfl))) (Or.inl (hw _ (List.mem_of_getElem? (i := 56) rfl))) (by decide) (t := .int) (t' := .int) (by decide) (by decide)))).other W48 (Or.inr (slot_ne (Or.inl (hw _ (List.mem_of_getElem? (i := 54) rfl))) (Or.inl (hw _ (List.mem_of_getElem? (i := 56) rfl))) (by decide) (t := .int) (t' := .int) (by decide) (by decide)))).other W64 (Or.inr (slot_ne (Or.inl (hw _ (List.mem_of_getElem? (i := 54) rfl))) (Or.inl (hw _ (List.mem_of_getElem? (i := 56) rfl))) (by decide) (t := .int) (t' := .int) (by decide) (by decide)))).other W80 (Or.inr (slot_ne (Or.inl (hw _ (List.mem_of_getElem? (i := 54) rfl))) (Or.inl (hw _ (List.mem_of_getElem? (i := 56) rfl))) (by decide) (t := .int) (t' := .int) (by decide) (by decide)))).other W93 (Or.inr (slot_ne (Or.inl (hw _ (List.mem_of_getElem? (i := 54) rfl))) (Or.inl (hw _ (List.mem_of_getElem? (i := 52) rfl))) (by decide) (t := .int) (t' := .int) (by decide) (by decide))))
          have F97 : Fld Z h93 a1 "com/example/profitmine/profitmine/io/Fields" "end" "I" (.int (3 : Int32)) := (G80.other W93 (Or.inr (slot_ne (Or.inl (hw _ (List.mem_of_getElem? (i := 56) rfl))) (Or.inl (hw _ (List.mem_of_getElem? (i := 52) rfl))) (by decide) (t := .int) (t' := .int) (by decide) (by decide))))
          subst hΦ
          exact own_retN X93 hx (t := .boolean) Bd.returns (by simp) hlk (hb hby d10_167) e93 ⟨(by unfold own_fd; rw [if_pos hc27, if_neg hc64]; first | done | rfl), N93, F94, F95, (by unfold own_es; rw [if_pos hc27, if_neg hc64]; exact F96), (by unfold own_ee; rw [if_pos hc27, if_neg hc64, if_pos hc115, if_pos hc115_2]; exact F97)⟩ (by decide) (by decide)
        · refine own_go (fun t k => XS.ifYes X77.here hx rfl (pc0 := 115) (pc' := 131) rfl (hb hby d10_115) rfl ((if0 _ _).trans (feq hc115_2).2) (by decide) (by decide) k) ?_
          refine own_go (fun t k => XS.aloadN X77.here hx rfl (hb hby d10_131) rfl rfl  k) ?_
          refine own_go (fun t k => XS.dup X77.here hx rfl (hb hby d10_132) rfl rfl k) ?_
          have F98 : Fld Z h64 a1 "com/example/profitmine/profitmine/io/Fields" "count" "I" (.int (0 : Int32)) := ((((H5.other W29 (Or.inr (slot_ne (Or.inl (hw _ (List.mem_of_getElem? (i := 52) rfl))) (Or.inl (hw _ (List.mem_of_getElem? (i := 54) rfl))) (by decide) (t := .int) (t' := .int) (by decide) (by decide)))).other W32 (Or.inr (slot_ne (Or.inl (hw _ (List.mem_of_getElem? (i := 52) rfl))) (Or.inl (hw _ (List.mem_of_getElem? (i := 56) rfl))) (by decide) (t := .int) (t' := .int) (by decide) (by decide)))).other W48 (Or.inr (slot_ne (Or.inl (hw _ (List.mem_of_getElem? (i := 52) rfl))) (Or.inl (hw _ (List.mem_of_getElem? (i := 56) rfl))) (by decide) (t := .int) (t' := .int) (by decide) (by decide)))).other W64 (Or.inr (slot_ne (Or.inl (hw _ (List.mem_of_getElem? (i := 52) rfl))) (Or.inl (hw _ (List.mem_of_getElem? (i := 56) rfl))) (by decide) (t := .int) (t' := .int) (by decide) (by decide))))
          obtain ⟨T99, X99, e99, st99⟩ := getF X77 hx hZ hown (host := "") (Or.inl (hw _ (List.mem_of_getElem? (i := 51) rfl))) Via.refl e77 F98 (g := (mkF m 133 #[.val (.ref a1), .val (.int (0 : Int32)), .val (.int (1 : Int32))] [(.ref a1), (.ref a1)])) rfl rfl (hb hby d10_133)
          refine own_go st99 ?_
          refine own_go (fun t k => XS.iconst X99.here hx rfl (hb hby d10_136) k) ?_
          refine own_go (fun t k => XS.iadd X99.here hx rfl (hb hby d10_137) rfl k) ?_
          show own_Run p e below Φ (T99.setTop (mkF m 138 #[.val (.ref a1), .val (.int (0 : Int32)), .val (.int (1 : Int32))] [(.int ((0 : Int32) + (1 : Int32))), (.ref a1)]))
          rw [show ((0 : Int32) + (1 : Int32)) = (1 : Int32) from by decide]
          show own_Run p e below Φ (T99.setTop (mkF m 138 #[.val (.ref a1), .val (.int (0 : Int32)), .val (.int (1 : Int32))] [(.int (1 : Int32)), (.ref a1)]))
          have F100 : Exa Z h64 a1 "com/example/profitmine/profitmine/io/Fields" := (F63.wr W64)
          obtain ⟨T101, h101, X101, e101, W101, st101⟩ := putF X99 hx hZ hown (host := "") (Or.inl (hw _ (List.mem_of_getElem? (i := 51) rfl))) Via.refl e99 F98 F100 (Or.inl (hw _ (List.mem_of_getElem? (i := 52) rfl))) (hw _ (List.mem_of_getElem? (i := 35) rfl)) (ty := .int) (by decide) rfl rfl (g := (mkF m 138 #[.val (.ref a1), .val (.int (0 : Int32)), .val (.int (1 : Int32))] [(.int (1 : Int32)), (.ref a1)])) rfl rfl (hb hby d10_138)
          refine own_go st101 ?_
          have G101 : Fld Z h101 a1 "com/example/profitmine/profitmine/io/Fields" "count" "I" (.int (1 : Int32)) := F98.same W101
          have N101 := Fr.snoc X101 N77 H15
          refine own_go (fun t k => XS.goto X101.here hx rfl (pc0 := 141) (pc' := 166) rfl (hb hby d10_141) (by decide) (by decide) k) ?_
          refine own_go (fun t k => XS.iloadN X101.here hx rfl (hb hby d10_166) rfl  k) ?_
          have F102 : Keep h0 h101 [a1] := (((((K0.wr W29 (Or.inl (List.mem_of_getElem? (i := 0) rfl))).wr W32 (Or.inl (List.mem_of_getElem? (i := 0) rfl))).wr W48 (Or.inl (List.mem_of_getElem? (i := 0) rfl))).wr W64 (Or.inl (List.mem_of_getElem? (i := 0) rfl))).wr W101 (Or.inl (List.mem_of_getElem? (i := 0) rfl)))
          have F103 : Fld Z h101 a1 "com/example/profitmine/profitmine/io/Fields" "line" "Ljava/lang/String;" (.ref sx) := (F66.other W101 (Or.inr (slot_ne (Or.inl (hw _ (List.mem_of_getElem? (i := 45) rfl))) (Or.inl (hw _ (List.mem_of_getElem? (i := 52) rfl))) (by decide) (t := (.object "java/lang/String")) (t' := .int) (by decide) (by decide))))
          have F104 : Fld Z h101 a1 "com/example/profitmine/profitmine/io/Fields" "start" "I" (.int (0 : Int32)) := ((((G29.other W32 (Or.inr (slot_ne (Or.inl (hw _ (List.mem_of_getElem? (i := 54) rfl))) (Or.inl (hw _ (List.mem_of_getElem? (i := 56) rfl))) (by decide) (t := .int) (t' := .int) (by decide) (by decide)))).other W48 (Or.inr (slot_ne (Or.inl (hw _ (List.mem_of_getElem? (i := 54) rfl))) (Or.inl (hw _ (List.mem_of_getElem? (i := 56) rfl))) (by decide) (t := .int) (t' := .int) (by decide) (by decide)))).other W64 (Or.inr (slot_ne (Or.inl (hw _ (List.mem_of_getElem? (i := 54) rfl))) (Or.inl (hw _ (List.mem_of_getElem? (i := 56) rfl))) (by decide) (t := .int) (t' := .int) (by decide) (by decide)))).other W101 (Or.inr (slot_ne (Or.inl (hw _ (List.mem_of_getElem? (i := 54) rfl))) (Or.inl (hw _ (List.mem_of_getElem? (i := 52) rfl))) (by decide) (t := .int) (t' := .int) (by decide) (by decide))))
          have F105 : Fld Z h101 a1 "com/example/profitmine/profitmine/io/Fields" "end" "I" (.int (2 : Int32)) := (G64.other W101 (Or.inr (slot_ne (Or.inl (hw _ (List.mem_of_getElem? (i := 56) rfl))) (Or.inl (hw _ (List.mem_of_getElem? (i := 52) rfl))) (by decide) (t := .int) (t' := .int) (by decide) (by decide))))
          subst hΦ
          exact own_retN X101 hx (t := .boolean) Bd.returns (by simp) hlk (hb hby d10_167) e101 ⟨(by unfold own_fd; rw [if_pos hc27, if_neg hc64]; first | done | rfl), N101, F102, F103, (by unfold own_es; rw [if_pos hc27, if_neg hc64]; exact F104), (by unfold own_ee; rw [if_pos hc27, if_neg hc64, if_pos hc115, if_neg hc115_2]; exact F105)⟩ (by decide) (by decide)
      · refine own_go (fun t k => XS.ifYes X61.here hx rfl (pc0 := 115) (pc' := 131) rfl (hb hby d10_115) rfl ((if0 _ _).trans (feq hc115).2) (by decide) (by decide) k) ?_
        refine own_go (fun t k => XS.aloadN X61.here hx rfl (hb hby d10_131) rfl rfl  k) ?_
        refine own_go (fun t k => XS.dup X61.here hx rfl (hb hby d10_132) rfl rfl k) ?_
        have F106 : Fld Z h48 a1 "com/example/profitmine/profitmine/io/Fields" "count" "I" (.int (0 : Int32)) := (((H5.other W29 (Or.inr (slot_ne (Or.inl (hw _ (List.mem_of_getElem? (i := 52) rfl))) (Or.inl (hw _ (List.mem_of_getElem? (i := 54) rfl))) (by decide) (t := .int) (t' := .int) (by decide) (by decide)))).other W32 (Or.inr (slot_ne (Or.inl (hw _ (List.mem_of_getElem? (i := 52) rfl))) (Or.inl (hw _ (List.mem_of_getElem? (i := 56) rfl))) (by decide) (t := .int) (t' := .int) (by decide) (by decide)))).other W48 (Or.inr (slot_ne (Or.inl (hw _ (List.mem_of_getElem? (i := 52) rfl))) (Or.inl (hw _ (List.mem_of_getElem? (i := 56) rfl))) (by decide) (t := .int) (t' := .int) (by decide) (by decide))))
        obtain ⟨T107, X107, e107, st107⟩ := getF X61 hx hZ hown (host := "") (Or.inl (hw _ (List.mem_of_getElem? (i := 51) rfl))) Via.refl e61 F106 (g := (mkF m 133 #[.val (.ref a1), .val (.int (0 : Int32)), .val (.int (1 : Int32))] [(.ref a1), (.ref a1)])) rfl rfl (hb hby d10_133)
        refine own_go st107 ?_
        refine own_go (fun t k => XS.iconst X107.here hx rfl (hb hby d10_136) k) ?_
        refine own_go (fun t k => XS.iadd X107.here hx rfl (hb hby d10_137) rfl k) ?_
        show own_Run p e below Φ (T107.setTop (mkF m 138 #[.val (.ref a1), .val (.int (0 : Int32)), .val (.int (1 : Int32))] [(.int ((0 : Int32) + (1 : Int32))), (.ref a1)]))
        rw [show ((0 : Int32) + (1 : Int32)) = (1 : Int32) from by decide]
        show own_Run p e below Φ (T107.setTop (mkF m 138 #[.val (.ref a1), .val (.int (0 : Int32)), .val (.int (1 : Int32))] [(.int (1 : Int32)), (.ref a1)]))
        have F108 : Exa Z h48 a1 "com/example/profitmine/profitmine/io/Fields" := (F47.wr W48)
        obtain ⟨T109, h109, X109, e109, W109, st109⟩ := putF X107 hx hZ hown (host := "") (Or.inl (hw _ (List.mem_of_getElem? (i := 51) rfl))) Via.refl e107 F106 F108 (Or.inl (hw _ (List.mem_of_getElem? (i := 52) rfl))) (hw _ (List.mem_of_getElem? (i := 35) rfl)) (ty := .int) (by decide) rfl rfl (g := (mkF m 138 #[.val (.ref a1), .val (.int (0 : Int32)), .val (.int (1 : Int32))] [(.int (1 : Int32)), (.ref a1)])) rfl rfl (hb hby d10_138)
        refine own_go st109 ?_
        have G109 : Fld Z h109 a1 "com/example/profitmine/profitmine/io/Fields" "count" "I" (.int (1 : Int32)) := F106.same W109
        have N109 := Fr.snoc X109 N61 H15
        refine own_go (fun t k => XS.goto X109.here hx rfl (pc0 := 141) (pc' := 166) rfl (hb hby d10_141) (by decide) (by decide) k) ?_
        refine own_go (fun t k => XS.iloadN X109.here hx rfl (hb hby d10_166) rfl  k) ?_
        have F110 : Keep h0 h109 [a1] := ((((K0.wr W29 (Or.inl (List.mem_of_getElem? (i := 0) rfl))).wr W32 (Or.inl (List.mem_of_getElem? (i := 0) rfl))).wr W48 (Or.inl (List.mem_of_getElem? (i := 0) rfl))).wr W109 (Or.inl (List.mem_of_getElem? (i := 0) rfl)))
        have F111 : Fld Z h109 a1 "com/example/profitmine/profitmine/io/Fields" "line" "Ljava/lang/String;" (.ref sx) := (F50.other W109 (Or.inr (slot_ne (Or.inl (hw _ (List.mem_of_getElem? (i := 45) rfl))) (Or.inl (hw _ (List.mem_of_getElem? (i := 52) rfl))) (by decide) (t := (.object "java/lang/String")) (t' := .int) (by decide) (by decide))))
        have F112 : Fld Z h109 a1 "com/example/profitmine/profitmine/io/Fields" "start" "I" (.int (0 : Int32)) := (((G29.other W32 (Or.inr (slot_ne (Or.inl (hw _ (List.mem_of_getElem? (i := 54) rfl))) (Or.inl (hw _ (List.mem_of_getElem? (i := 56) rfl))) (by decide) (t := .int) (t' := .int) (by decide) (by decide)))).other W48 (Or.inr (slot_ne (Or.inl (hw _ (List.mem_of_getElem? (i := 54) rfl))) (Or.inl (hw _ (List.mem_of_getElem? (i := 56) rfl))) (by decide) (t := .int) (t' := .int) (by decide) (by decide)))).other W109 (Or.inr (slot_ne (Or.inl (hw _ (List.mem_of_getElem? (i := 54) rfl))) (Or.inl (hw _ (List.mem_of_getElem? (i := 52) rfl))) (by decide) (t := .int) (t' := .int) (by decide) (by decide))))
        have F113 : Fld Z h109 a1 "com/example/profitmine/profitmine/io/Fields" "end" "I" (.int (1 : Int32)) := (G48.other W109 (Or.inr (slot_ne (Or.inl (hw _ (List.mem_of_getElem? (i := 56) rfl))) (Or.inl (hw _ (List.mem_of_getElem? (i := 52) rfl))) (by decide) (t := .int) (t' := .int) (by decide) (by decide))))
        subst hΦ
        exact own_retN X109 hx (t := .boolean) Bd.returns (by simp) hlk (hb hby d10_167) e109 ⟨(by unfold own_fd; rw [if_pos hc27, if_neg hc64]; first | done | rfl), N109, F110, F111, (by unfold own_es; rw [if_pos hc27, if_neg hc64]; exact F112), (by unfold own_ee; rw [if_pos hc27, if_neg hc64, if_neg hc115]; exact F113)⟩ (by decide) (by decide)
  · refine own_go (fun t k => XS.ifNo X6.here hx rfl (hb hby d10_27) rfl ((if0 _ _).trans (feq hc27).1) k) ?_
    refine own_go (fun t k => XS.iinc X6.here hx rfl (hb hby d10_30) rfl (l' := #[.val (.ref a1), .val (.int ((0 : Int32) + (1 : Int32))), .unset]) rfl k) ?_
    show own_Run p e below Φ (T6.setTop (mkF m 33 #[.val (.ref a1), .val (.int ((0 : Int32) + (1 : Int32))), .unset] []))
    rw [show ((0 : Int32) + (1 : Int32)) = (1 : Int32) from by decide]
    show own_Run p e below Φ (T6.setTop (mkF m 33 #[.val (.ref a1), .val (.int (1 : Int32)), .unset] []))
    refine own_go (fun t k => XS.goto X6.here hx rfl (pc0 := 33) (pc' := 5) rfl (hb hby d10_33) (by decide) (by decide) k) ?_
    refine own_go (fun t k => XS.iloadN X6.here hx rfl (hb hby d10_5) rfl  k) ?_
    refine own_go (fun t k => XS.aloadN X6.here hx rfl (hb hby d10_6) rfl rfl  k) ?_
    obtain ⟨T114, X114, e114, st114⟩ := getF X6 hx hZ hown (host := "") (Or.inl (hw _ (List.mem_of_getElem? (i := 44) rfl))) Via.refl e6 H2 (g := (mkF m 7 #[.val (.ref a1), .val (.int (1 : Int32)), .unset] [(.ref a1), (.int (1 : Int32))])) rfl rfl (hb hby d10_7)
    refine own_go st114 ?_
    refine own_callV X114 hx hZ (y := (⟨"java/lang/String", "length", "()I"⟩ : MethodName)) (z := (⟨"java/lang/String", "length", "()I"⟩ : MethodName)) (W := 1) (a := sx) (argsL := []) (rest := [(.int (1 : Int32))]) hown (hw _ (List.mem_of_getElem? (i := 62) rfl)) (hw _ (List.mem_of_getElem? (i := 63) rfl)) (notFace_of_selects (args := #[]) (mvT hZ (hw _ (List.mem_of_getElem? (i := 65) rfl)))) (hw _ (List.mem_of_getElem? (i := 65) rfl)) (hw _ (List.mem_of_getElem? (i := 64) rfl)) (by decide) (own_bk (rm_le l Z a0 hw sx g1 tx kx _ _ _ h0 n0 H6 H7 hg5 H11 H12 H13 H14) hZ (hw _ (List.mem_of_getElem? (i := 66) rfl)) (hw _ (List.mem_of_getElem? (i := 7) rfl)) (by decide) (by decide)) e114 H11 (g := (mkF m 10 #[.val (.ref a1), .val (.int (1 : Int32)), .unset] [(.ref sx), (.int (1 : Int32))])) rfl (by rw [hml]; rfl) (lenOf pd_9 rfl) rfl (by show 2 * 0 + _ ≤ _; exact Nat.le_of_eq rfl) (hb hby d10_10) (by decide) (by decide) (fun v115 T115 h115 L115 X115 e115 q115 => ?_)
    obtain ⟨rfl, M115, s115⟩ := q115
    replace e115 : T115.heap = h0 := e115.trans s115
    have N115 := Fr.app N6 M115
    refine own_go (fun t k => XS.icmpNo X115.here hx rfl (hb hby d10_13) rfl (tlt (by decide : (1 : Int32) < (3 : Int32))).2.1 k) ?_
    refine own_go (fun t k => XS.aloadN X115.here hx rfl (hb hby d10_16) rfl rfl  k) ?_
    obtain ⟨T116, X116, e116, st116⟩ := getF X115 hx hZ hown (host := "") (Or.inl (hw _ (List.mem_of_getElem? (i := 44) rfl))) Via.refl e115 H2 (g := (mkF m 17 #[.val (.ref a1), .val (.int (1 : Int32)), .unset] [(.ref a1)])) rfl rfl (hb hby d10_17)
    refine own_go st116 ?_
    refine own_go (fun t k => XS.iloadN X116.here hx rfl (hb hby d10_20) rfl  k) ?_
    show own_Run p e below Φ (T116.setTop (mkF m 21 #[.val (.ref a1), .val (.int (1 : Int32)), .unset] [(.int (1 : Int32)), (.ref sx)]))
    refine own_callV X116 hx hZ (y := (⟨"java/lang/String", "charAt", "(I)C"⟩ : MethodName)) (z := (⟨"java/lang/String", "charAt", "(I)C"⟩ : MethodName)) (W := 0) (a := sx) (argsL := [(.int (1 : Int32))]) (rest := []) hown (hw _ (List.mem_of_getElem? (i := 72) rfl)) (hw _ (List.mem_of_getElem? (i := 73) rfl)) (notFace_of_selects (args := #[]) (mvT hZ (hw _ (List.mem_of_getElem? (i := 75) rfl)))) (hw _ (List.mem_of_getElem? (i := 75) rfl)) (hw _ (List.mem_of_getElem? (i := 74) rfl)) (by decide) (own_bk (rm_ch1 l Z a0 hw sx g1 g3 tx kx _ _ _ h0 n0 H6 H7 hg5 H9 hr H11 H12 H13 H14 hy.2.1) hZ (hw _ (List.mem_of_getElem? (i := 76) rfl)) (hw _ (List.mem_of_getElem? (i := 7) rfl)) (by decide) (by decide)) e116 H11 (g := (mkF m 21 #[.val (.ref a1), .val (.int (1 : Int32)), .unset] [(.int (1 : Int32)), (.ref sx)])) rfl (by rw [hml]; rfl) (lenOf pd_0 rfl) rfl (by show 2 * 0 + _ ≤ _; exact Nat.le_of_eq rfl) (hb hby d10_21) (by decide) (by decide) (fun v117 T117 h117 L117 X117 e117 q117 => ?_)
    obtain ⟨rfl, M117, s117⟩ := q117
    replace e117 : T117.heap = h0 := e117.trans s117
    have N117 := Fr.app N115 M117
    refine own_callS X117 hx hZ (y := (⟨"com/example/profitmine/profitmine/io/Fields", "isBlank", "(C)Z"⟩ : MethodName)) (W := 0) (argsL := [(.int y1)]) (rest := []) hown (hw _ (List.mem_of_getElem? (i := 94) rfl)) (hw _ (List.mem_of_getElem? (i := 95) rfl)) (hw _ (List.mem_of_getElem? (i := 36) rfl)) (hw _ (List.mem_of_getElem? (i := 96) rfl)) (by decide) (own_bk (rm_ib l Z a0 hw y1 h0 n0 ) hZ (hw _ (List.mem_of_getElem? (i := 96) rfl)) (hw _ (List.mem_of_getElem? (i := 36) rfl)) (by decide) (by decide)) e117 (g := (mkF m 24 #[.val (.ref a1), .val (.int (1 : Int32)), .unset] [(.int y1)])) rfl (by rw [hml]; rfl) (lenOf pd_14 rfl) rfl (by show 2 * 0 + _ ≤ _; exact Nat.le_of_eq rfl) (hb hby d10_24) (by decide) (by decide) (fun v118 T118 h118 L118 X118 e118 q118 => ?_)
    obtain ⟨rfl, M118, s118⟩ := q118
    replace e118 : T118.heap = h0 := e118.trans s118
    have N118 := Fr.app N117 M118
    by_cases hc27_2 : (own_blk y1) = (0 : Int32)
    · refine own_go (fun t k => XS.ifYes X118.here hx rfl (pc0 := 27) (pc' := 36) rfl (hb hby d10_27) rfl ((if0 _ _).trans (teq hc27_2).1) (by decide) (by decide) k) ?_
      refine own_go (fun t k => XS.iloadN X118.here hx rfl (hb hby d10_36) rfl  k) ?_
      refine own_go (fun t k => XS.aloadN X118.here hx rfl (hb hby d10_37) rfl rfl  k) ?_
      obtain ⟨T119, X119, e119, st119⟩ := getF X118 hx hZ hown (host := "") (Or.inl (hw _ (List.mem_of_getElem? (i := 44) rfl))) Via.refl e118 H2 (g := (mkF m 38 #[.val (.ref a1), .val (.int (1 : Int32)), .unset] [(.ref a1), (.int (1 : Int32))])) rfl rfl (hb hby d10_38)
      refine own_go st119 ?_
      refine own_callV X119 hx hZ (y := (⟨"java/lang/String", "length", "()I"⟩ : MethodName)) (z := (⟨"java/lang/String", "length", "()I"⟩ : MethodName)) (W := 1) (a := sx) (argsL := []) (rest := [(.int (1 : Int32))]) hown (hw _ (List.mem_of_getElem? (i := 62) rfl)) (hw _ (List.mem_of_getElem? (i := 63) rfl)) (notFace_of_selects (args := #[]) (mvT hZ (hw _ (List.mem_of_getElem? (i := 65) rfl)))) (hw _ (List.mem_of_getElem? (i := 65) rfl)) (hw _ (List.mem_of_getElem? (i := 64) rfl)) (by decide) (own_bk (rm_le l Z a0 hw sx g1 tx kx _ _ _ h0 n0 H6 H7 hg5 H11 H12 H13 H14) hZ (hw _ (List.mem_of_getElem? (i := 66) rfl)) (hw _ (List.mem_of_getElem? (i := 7) rfl)) (by decide) (by decide)) e119 H11 (g := (mkF m 41 #[.val (.ref a1), .val (.int (1 : Int32)), .unset] [(.ref sx), (.int (1 : Int32))])) rfl (by rw [hml]; rfl) (lenOf pd_9 rfl) rfl (by show 2 * 0 + _ ≤ _; exact Nat.le_of_eq rfl) (hb hby d10_41) (by decide) (by decide) (fun v120 T120 h120 L120 X120 e120 q120 => ?_)
      obtain ⟨rfl, M120, s120⟩ := q120
      replace e120 : T120.heap = h0 := e120.trans s120
      have N120 := Fr.app N118 M120
      refine own_go (fun t k => XS.icmpNo X120.here hx rfl (hb hby d10_44) rfl (tlt (by decide : (1 : Int32) < (3 : Int32))).2.1 k) ?_
      refine own_go (fun t k => XS.aloadN X120.here hx rfl (hb hby d10_47) rfl rfl  k) ?_
      show own_Run p e below Φ (T120.setTop (mkF m 48 #[.val (.ref a1), .val (.int (1 : Int32)), .unset] [(.ref a1)]))
      obtain ⟨T121, X121, e121, st121⟩ := getF X120 hx hZ hown (host := "") (Or.inl (hw _ (List.mem_of_getElem? (i := 51) rfl))) Via.refl e120 H5 (g := (mkF m 48 #[.val (.ref a1), .val (.int (1 : Int32)), .unset] [(.ref a1)])) rfl rfl (hb hby d10_48)
      refine own_go st121 ?_
      refine own_go (fun t k => XS.ifNo X121.here hx rfl (hb hby d10_51) rfl ((if0 _ _).trans (flt (by decide : ¬ ((0 : Int32) < (0 : Int32)))).2.2.1) k) ?_
      refine own_go (fun t k => XS.aloadN X121.here hx rfl (hb hby d10_54) rfl rfl  k) ?_
      obtain ⟨T122, X122, e122, st122⟩ := getF X121 hx hZ hown (host := "") (Or.inl (hw _ (List.mem_of_getElem? (i := 44) rfl))) Via.refl e121 H2 (g := (mkF m 55 #[.val (.ref a1), .val (.int (1 : Int32)), .unset] [(.ref a1)])) rfl rfl (hb hby d10_55)
      refine own_go st122 ?_
      refine own_go (fun t k => XS.iloadN X122.here hx rfl (hb hby d10_58) rfl  k) ?_
      refine own_callV X122 hx hZ (y := (⟨"java/lang/String", "charAt", "(I)C"⟩ : MethodName)) (z := (⟨"java/lang/String", "charAt", "(I)C"⟩ : MethodName)) (W := 0) (a := sx) (argsL := [(.int (1 : Int32))]) (rest := []) hown (hw _ (List.mem_of_getElem? (i := 72) rfl)) (hw _ (List.mem_of_getElem? (i := 73) rfl)) (notFace_of_selects (args := #[]) (mvT hZ (hw _ (List.mem_of_getElem? (i := 75) rfl)))) (hw _ (List.mem_of_getElem? (i := 75) rfl)) (hw _ (List.mem_of_getElem? (i := 74) rfl)) (by decide) (own_bk (rm_ch1 l Z a0 hw sx g1 g3 tx kx _ _ _ h0 n0 H6 H7 hg5 H9 hr H11 H12 H13 H14 hy.2.1) hZ (hw _ (List.mem_of_getElem? (i := 76) rfl)) (hw _ (List.mem_of_getElem? (i := 7) rfl)) (by decide) (by decide)) e122 H11 (g := (mkF m 59 #[.val (.ref a1), .val (.int (1 : Int32)), .unset] [(.int (1 : Int32)), (.ref sx)])) rfl (by rw [hml]; rfl) (lenOf pd_0 rfl) rfl (by show 2 * 0 + _ ≤ _; exact Nat.le_of_eq rfl) (hb hby d10_59) (by decide) (by decide) (fun v123 T123 h123 L123 X123 e123 q123 => ?_)
      obtain ⟨rfl, M123, s123⟩ := q123
      replace e123 : T123.heap = h0 := e123.trans s123
      have N123 := Fr.app N120 M123
      refine own_go (fun t k => XS.bipush X123.here hx rfl (hb hby d10_62) k) ?_
      by_cases hc64 : y1 = (35 : Int32)
      · refine own_go (fun t k => XS.icmpYes X123.here hx rfl (pc0 := 64) (pc' := 71) rfl (hb hby d10_64) rfl (teq hc64).1 (by decide) (by decide) k) ?_
        refine own_go (fun t k => XS.iconst X123.here hx rfl (hb hby d10_71) k) ?_
        show own_Run p e below Φ (T123.setTop (mkF m 72 #[.val (.ref a1), .val (.int (1 : Int32)), .unset] [(.int (0 : Int32))]))
        refine own_go (fun t k => XS.istoreN X123.here hx rfl (hb hby d10_72) rfl (l' := #[.val (.ref a1), .val (.int (1 : Int32)), .val (.int (0 : Int32))]) rfl k) ?_
        refine own_go (fun t k => XS.iloadN X123.here hx rfl (hb hby d10_73) rfl  k) ?_
        refine own_go (fun t k => XS.ifYes X123.here hx rfl (pc0 := 74) (pc' := 144) rfl (hb hby d10_74) rfl ((if0 _ _).trans (teq (rfl : (0 : Int32) = (0 : Int32))).1) (by decide) (by decide) k) ?_
        refine own_go (fun t k => XS.aloadN X123.here hx rfl (hb hby d10_144) rfl rfl  k) ?_
        refine own_go (fun t k => XS.aloadN X123.here hx rfl (hb hby d10_145) rfl rfl  k) ?_
        obtain ⟨T124, X124, e124, st124⟩ := getF X123 hx hZ hown (host := "") (Or.inl (hw _ (List.mem_of_getElem? (i := 44) rfl))) Via.refl e123 H2 (g := (mkF m 146 #[.val (.ref a1), .val (.int (1 : Int32)), .val (.int (0 : Int32))] [(.ref a1), (.ref a1)])) rfl rfl (hb hby d10_146)
        refine own_go st124 ?_
        refine own_callV X124 hx hZ (y := (⟨"java/lang/String", "length", "()I"⟩ : MethodName)) (z := (⟨"java/lang/String", "length", "()I"⟩ : MethodName)) (W := 1) (a := sx) (argsL := []) (rest := [(.ref a1)]) hown (hw _ (List.mem_of_getElem? (i := 62) rfl)) (hw _ (List.mem_of_getElem? (i := 63) rfl)) (notFace_of_selects (args := #[]) (mvT hZ (hw _ (List.mem_of_getElem? (i := 65) rfl)))) (hw _ (List.mem_of_getElem? (i := 65) rfl)) (hw _ (List.mem_of_getElem? (i := 64) rfl)) (by decide) (own_bk (rm_le l Z a0 hw sx g1 tx kx _ _ _ h0 n0 H6 H7 hg5 H11 H12 H13 H14) hZ (hw _ (List.mem_of_getElem? (i := 66) rfl)) (hw _ (List.mem_of_getElem? (i := 7) rfl)) (by decide) (by decide)) e124 H11 (g := (mkF m 149 #[.val (.ref a1), .val (.int (1 : Int32)), .val (.int (0 : Int32))] [(.ref sx), (.ref a1)])) rfl (by rw [hml]; rfl) (lenOf pd_9 rfl) rfl (by show 2 * 0 + _ ≤ _; exact Nat.le_of_eq rfl) (hb hby d10_149) (by decide) (by decide) (fun v125 T125 h125 L125 X125 e125 q125 => ?_)
        obtain ⟨rfl, M125, s125⟩ := q125
        replace e125 : T125.heap = h0 := e125.trans s125
        have N125 := Fr.app N123 M125
        obtain ⟨T126, h126, X126, e126, W126, st126⟩ := putF X125 hx hZ hown (host := "") (Or.inl (hw _ (List.mem_of_getElem? (i := 53) rfl))) Via.refl e125 H3 H1 (Or.inl (hw _ (List.mem_of_getElem? (i := 54) rfl))) (hw _ (List.mem_of_getElem? (i := 35) rfl)) (ty := .int) (by decide) rfl rfl (g := (mkF m 152 #[.val (.ref a1), .val (.int (1 : Int32)), .val (.int (0 : Int32))] [(.int (3 : Int32)), (.ref a1)])) rfl rfl (hb hby d10_152)
        refine own_go st126 ?_
        have G126 : Fld Z h126 a1 "com/example/profitmine/profitmine/io/Fields" "start" "I" (.int (3 : Int32)) := H3.same W126
        have N126 := Fr.snoc X126 N125 H15
        refine own_go (fun t k => XS.aloadN X126.here hx rfl (hb hby d10_155) rfl rfl  k) ?_
        show own_Run p e below Φ (T126.setTop (mkF m 156 #[.val (.ref a1), .val (.int (1 : Int32)), .val (.int (0 : Int32))] [(.ref a1)]))
        refine own_go (fun t k => XS.aloadN X126.here hx rfl (hb hby d10_156) rfl rfl  k) ?_
        have F127 : Fld Z h126 a1 "com/example/profitmine/profitmine/io/Fields" "line" "Ljava/lang/String;" (.ref sx) := (H2.other W126 (Or.inr (slot_ne (Or.inl (hw _ (List.mem_of_getElem? (i := 45) rfl))) (Or.inl (hw _ (List.mem_of_getElem? (i := 54) rfl))) (by decide) (t := (.object "java/lang/String")) (t' := .int) (by decide) (by decide))))
        obtain ⟨T128, X128, e128, st128⟩ := getF X126 hx hZ hown (host := "") (Or.inl (hw _ (List.mem_of_getElem? (i := 44) rfl))) Via.refl e126 F127 (g := (mkF m 157 #[.val (.ref a1), .val (.int (1 : Int32)), .val (.int (0 : Int32))] [(.ref a1), (.ref a1)])) rfl rfl (hb hby d10_157)
        refine own_go st128 ?_
        have F129 : Old Z n0 h126 := (H6.wr W126 H15)
        have F130 : Exa Z h126 sx "java/lang/String" := (H11.wr W126)
        have F131 : Fld Z h126 sx "java/lang/String" "value" "[B" (.ref tx) := (H12.other W126 (Or.inl H16))
        have F132 : Fld Z h126 sx "java/lang/String" "coder" "B" (.int (0 : Int32)) := (H13.other W126 (Or.inl H16))
        have F133 : Arv Z h126 tx kx .byte (3 : Int32) [(.int (y0.toInt8.toInt32)), (.int (y1.toInt8.toInt32)), (.int (y2.toInt8.toInt32))] (.int 0) := (H14.other W126 H17)
        refine own_callV X128 hx hZ (y := (⟨"java/lang/String", "length", "()I"⟩ : MethodName)) (z := (⟨"java/lang/String", "length", "()I"⟩ : MethodName)) (W := 1) (a := sx) (argsL := []) (rest := [(.ref a1)]) hown (hw _ (List.mem_of_getElem? (i := 62) rfl)) (hw _ (List.mem_of_getElem? (i := 63) rfl)) (notFace_of_selects (args := #[]) (mvT hZ (hw _ (List.mem_of_getElem? (i := 65) rfl)))) (hw _ (List.mem_of_getElem? (i := 65) rfl)) (hw _ (List.mem_of_getElem? (i := 64) rfl)) (by decide) (own_bk (rm_le l Z a0 hw sx g1 tx kx _ _ _ h126 n0 F129 H7 hg5 F130 F131 F132 F133) hZ (hw _ (List.mem_of_getElem? (i := 66) rfl)) (hw _ (List.mem_of_getElem? (i := 7) rfl)) (by decide) (by decide)) e128 F130 (g := (mkF m 160 #[.val (.ref a1), .val (.int (1 : Int32)), .val (.int (0 : Int32))] [(.ref sx), (.ref a1)])) rfl (by rw [hml]; rfl) (lenOf pd_9 rfl) rfl (by show 2 * 0 + _ ≤ _; exact Nat.le_of_eq rfl) (hb hby d10_160) (by decide) (by decide) (fun v134 T134 h134 L134 X134 e134 q134 => ?_)
        obtain ⟨rfl, M134, s134⟩ := q134
        replace e134 : T134.heap = h126 := e134.trans s134
        have N134 := Fr.app N126 M134
        have F135 : Fld Z h126 a1 "com/example/profitmine/profitmine/io/Fields" "end" "I" (.int (0 : Int32)) := (H4.other W126 (Or.inr (slot_ne (Or.inl (hw _ (List.mem_of_getElem? (i := 56) rfl))) (Or.inl (hw _ (List.mem_of_getElem? (i := 54) rfl))) (by decide) (t := .int) (t' := .int) (by decide) (by decide))))
        have F136 : Exa Z h126 a1 "com/example/profitmine/profitmine/io/Fields" := (H1.wr W126)
        obtain ⟨T137, h137, X137, e137, W137, st137⟩ := putF X134 hx hZ hown (host := "") (Or.inl (hw _ (List.mem_of_getElem? (i := 55) rfl))) Via.refl e134 F135 F136 (Or.inl (hw _ (List.mem_of_getElem? (i := 56) rfl))) (hw _ (List.mem_of_getElem? (i := 35) rfl)) (ty := .int) (by decide) rfl rfl (g := (mkF m 163 #[.val (.ref a1), .val (.int (1 : Int32)), .val (.int (0 : Int32))] [(.int (3 : Int32)), (.ref a1)])) rfl rfl (hb hby d10_163)
        refine own_go st137 ?_
        have G137 : Fld Z h137 a1 "com/example/profitmine/profitmine/io/Fields" "end" "I" (.int (3 : Int32)) := F135.same W137
        have N137 := Fr.snoc X137 N134 H15
        refine own_go (fun t k => XS.iloadN X137.here hx rfl (hb hby d10_166) rfl  k) ?_
        have F138 : Keep h0 h137 [a1] := ((K0.wr W126 (Or.inl (List.mem_of_getElem? (i := 0) rfl))).wr W137 (Or.inl (List.mem_of_getElem? (i := 0) rfl)))
        have F139 : Fld Z h137 a1 "com/example/profitmine/profitmine/io/Fields" "line" "Ljava/lang/String;" (.ref sx) := (F127.other W137 (Or.inr (slot_ne (Or.inl (hw _ (List.mem_of_getElem? (i := 45) rfl))) (Or.inl (hw _ (List.mem_of_getElem? (i := 56) rfl))) (by decide) (t := (.object "java/lang/String")) (t' := .int) (by decide) (by decide))))
        have F140 : Fld Z h137 a1 "com/example/profitmine/profitmine/io/Fields" "start" "I" (.int (3 : Int32)) := (G126.other W137 (Or.inr (slot_ne (Or.inl (hw _ (List.mem_of_getElem? (i := 54) rfl))) (Or.inl (hw _ (List.mem_of_getElem? (i := 56) rfl))) (by decide) (t := .int) (t' := .int) (by decide) (by decide))))
        subst hΦ
        exact own_retN X137 hx (t := .boolean) Bd.returns (by simp) hlk (hb hby d10_167) e137 ⟨(by unfold own_fd; rw [if_neg hc27, if_pos hc27_2, if_pos hc64]; first | done | rfl), N137, F138, F139, (by unfold own_es; rw [if_neg hc27, if_pos hc27_2, if_pos hc64]; exact F140), (by unfold own_ee; rw [if_neg hc27, if_pos hc27_2, if_pos hc64]; exact G137)⟩ (by decide) (by decide)
      · refine own_go (fun t k => XS.icmpNo X123.here hx rfl (hb hby d10_64) rfl (feq hc64).1 k) ?_
        refine own_go (fun t k => XS.iconst X123.here hx rfl (hb hby d10_67) k) ?_
        refine own_go (fun t k => XS.goto X123.here hx rfl (pc0 := 68) (pc' := 72) rfl (hb hby d10_68) (by decide) (by decide) k) ?_
        refine own_go (fun t k => XS.istoreN X123.here hx rfl (hb hby d10_72) rfl (l' := #[.val (.ref a1), .val (.int (1 : Int32)), .val (.int (1 : Int32))]) rfl k) ?_
        show own_Run p e below Φ (T123.setTop (mkF m 73 #[.val (.ref a1), .val (.int (1 : Int32)), .val (.int (1 : Int32))] []))
        refine own_go (fun t k => XS.iloadN X123.here hx rfl (hb hby d10_73) rfl  k) ?_
        refine own_go (fun t k => XS.ifNo X123.here hx rfl (hb hby d10_74) rfl ((if0 _ _).trans (feq (by decide : ¬ ((1 : Int32) = (0 : Int32)))).1) k) ?_
        refine own_go (fun t k => XS.aloadN X123.here hx rfl (hb hby d10_77) rfl rfl  k) ?_
        refine own_go (fun t k => XS.iloadN X123.here hx rfl (hb hby d10_78) rfl  k) ?_
        obtain ⟨T141, h141, X141, e141, W141, st141⟩ := putF X123 hx hZ hown (host := "") (Or.inl (hw _ (List.mem_of_getElem? (i := 53) rfl))) Via.refl e123 H3 H1 (Or.inl (hw _ (List.mem_of_getElem? (i := 54) rfl))) (hw _ (List.mem_of_getElem? (i := 35) rfl)) (ty := .int) (by decide) rfl rfl (g := (mkF m 79 #[.val (.ref a1), .val (.int (1 : Int32)), .val (.int (1 : Int32))] [(.int (1 : Int32)), (.ref a1)])) rfl rfl (hb hby d10_79)
        refine own_go st141 ?_
        have G141 : Fld Z h141 a1 "com/example/profitmine/profitmine/io/Fields" "start" "I" (.int (1 : Int32)) := H3.same W141
        have N141 := Fr.snoc X141 N123 H15
        refine own_go (fun t k => XS.aloadN X141.here hx rfl (hb hby d10_82) rfl rfl  k) ?_
        refine own_go (fun t k => XS.iloadN X141.here hx rfl (hb hby d10_83) rfl  k) ?_
        have F142 : Fld Z h141 a1 "com/example/profitmine/profitmine/io/Fields" "end" "I" (.int (0 : Int32)) := (H4.other W141 (Or.inr (slot_ne (Or.inl (hw _ (List.mem_of_getElem? (i := 56) rfl))) (Or.inl (hw _ (List.mem_of_getElem? (i := 54) rfl))) (by decide) (t := .int) (t' := .int) (by decide) (by decide))))
        have F143 : Exa Z h141 a1 "com/example/profitmine/profitmine/io/Fields" := (H1.wr W141)
        obtain ⟨T144, h144, X144, e144, W144, st144⟩ := putF X141 hx hZ hown (host := "") (Or.inl (hw _ (List.mem_of_getElem? (i := 55) rfl))) Via.refl e141 F142 F143 (Or.inl (hw _ (List.mem_of_getElem? (i := 56) rfl))) (hw _ (List.mem_of_getElem? (i := 35) rfl)) (ty := .int) (by decide) rfl rfl (g := (mkF m 84 #[.val (.ref a1), .val (.int (1 : Int32)), .val (.int (1 : Int32))] [(.int (1 : Int32)), (.ref a1)])) rfl rfl (hb hby d10_84)
        refine own_go st144 ?_
        have G144 : Fld Z h144 a1 "com/example/profitmine/profitmine/io/Fields" "end" "I" (.int (1 : Int32)) := F142.same W144
        have N144 := Fr.snoc X144 N141 H15
        refine own_go (fun t k => XS.aloadN X144.here hx rfl (hb hby d10_87) rfl rfl  k) ?_
        show own_Run p e below Φ (T144.setTop (mkF m 88 #[.val (.ref a1), .val (.int (1 : Int32)), .val (.int (1 : Int32))] [(.ref a1)]))
        obtain ⟨T145, X145, e145, st145⟩ := getF X144 hx hZ hown (host := "") (Or.inl (hw _ (List.mem_of_getElem? (i := 55) rfl))) Via.refl e144 G144 (g := (mkF m 88 #[.val (.ref a1), .val (.int (1 : Int32)), .val (.int (1 : Int32))] [(.ref a1)])) rfl rfl (hb hby d10_88)
        refine own_go st145 ?_
        refine own_go (fun t k => XS.aloadN X145.here hx rfl (hb hby d10_91) rfl rfl  k) ?_
        have F146 : Fld Z h144 a1 "com/example/profitmine/profitmine/io/Fields" "line" "Ljava/lang/String;" (.ref sx) := ((H2.other W141 (Or.inr (slot_ne (Or.inl (hw _ (List.mem_of_getElem? (i := 45) rfl))) (Or.inl (hw _ (List.mem_of_getElem? (i := 54) rfl))) (by decide) (t := (.object "java/lang/String")) (t' := .int) (by decide) (by decide)))).other W144 (Or.inr (slot_ne (Or.inl (hw _ (List.mem_of_getElem? (i := 45) rfl))) (Or.inl (hw _ (List.mem_of_getElem? (i := 56) rfl))) (by decide) (t := (.object "java/lang/String")) (t' := .int) (by decide) (by decide))))
        obtain ⟨T147, X147, e147, st147⟩ := getF X145 hx hZ hown (host := "") (Or.inl (hw _ (List.mem_of_getElem? (i := 44) rfl))) Via.refl e145 F146 (g := (mkF m 92 #[.val (.ref a1), .val (.int (1 : Int32)), .val (.int (1 : Int32))] [(.ref a1), (.int (1 : Int32))])) rfl rfl (hb hby d10_92)
        refine own_go st147 ?_
        have F148 : Old Z n0 h144 := ((H6.wr W141 H15).wr W144 H15)
        have F149 : Exa Z h144 sx "java/lang/String" := ((H11.wr W141).wr W144)
        have F150 : Fld Z h144 sx "java/lang/String" "value" "[B" (.ref tx) := ((H12.other W141 (Or.inl H16)).other W144 (Or.inl H16))
        have F151 : Fld Z h144 sx "java/lang/String" "coder" "B" (.int (0 : Int32)) := ((H13.other W141 (Or.inl H16)).other W144 (Or.inl H16))
        have F152 : Arv Z h144 tx kx .byte (3 : Int32) [(.int (y0.toInt8.toInt32)), (.int (y1.toInt8.toInt32)), (.int (y2.toInt8.toInt32))] (.int 0) := ((H14.other W141 H17).other W144 H17)
        refine own_callV X147 hx hZ (y := (⟨"java/lang/String", "length", "()I"⟩ : MethodName)) (z := (⟨"java/lang/String", "length", "()I"⟩ : MethodName)) (W := 1) (a := sx) (argsL := []) (rest := [(.int (1 : Int32))]) hown (hw _ (List.mem_of_getElem? (i := 62) rfl)) (hw _ (List.mem_of_getElem? (i := 63) rfl)) (notFace_of_selects (args := #[]) (mvT hZ (hw _ (List.mem_of_getElem? (i := 65) rfl)))) (hw _ (List.mem_of_getElem? (i := 65) rfl)) (hw _ (List.mem_of_getElem? (i := 64) rfl)) (by decide) (own_bk (rm_le l Z a0 hw sx g1 tx kx _ _ _ h144 n0 F148 H7 hg5 F149 F150 F151 F152) hZ (hw _ (List.mem_of_getElem? (i := 66) rfl)) (hw _ (List.mem_of_getElem? (i := 7) rfl)) (by decide) (by decide)) e147 F149 (g := (mkF m 95 #[.val (.ref a1), .val (.int (1 : Int32)), .val (.int (1 : Int32))] [(.ref sx), (.int (1 : Int32))])) rfl (by rw [hml]; rfl) (lenOf pd_9 rfl) rfl (by show 2 * 0 + _ ≤ _; exact Nat.le_of_eq rfl) (hb hby d10_95) (by decide) (by decide) (fun v153 T153 h153 L153 X153 e153 q153 => ?_)
        obtain ⟨rfl, M153, s153⟩ := q153
        replace e153 : T153.heap = h144 := e153.trans s153
        have N153 := Fr.app N144 M153
        refine own_go (fun t k => XS.icmpNo X153.here hx rfl (hb hby d10_98) rfl (tlt (by decide : (1 : Int32) < (3 : Int32))).2.1 k) ?_
        refine own_go (fun t k => XS.aloadN X153.here hx rfl (hb hby d10_101) rfl rfl  k) ?_
        obtain ⟨T154, X154, e154, st154⟩ := getF X153 hx hZ hown (host := "") (Or.inl (hw _ (List.mem_of_getElem? (i := 44) rfl))) Via.refl e153 F146 (g := (mkF m 102 #[.val (.ref a1), .val (.int (1 : Int32)), .val (.int (1 : Int32))] [(.ref a1)])) rfl rfl (hb hby d10_102)
        refine own_go st154 ?_
        refine own_go (fun t k => XS.aloadN X154.here hx rfl (hb hby d10_105) rfl rfl  k) ?_
        obtain ⟨T155, X155, e155, st155⟩ := getF X154 hx hZ hown (host := "") (Or.inl (hw _ (List.mem_of_getElem? (i := 55) rfl))) Via.refl e154 G144 (g := (mkF m 106 #[.val (.ref a1), .val (.int (1 : Int32)), .val (.int (1 : Int32))] [(.ref a1), (.ref sx)])) rfl rfl (hb hby d10_106)
        refine own_go st155 ?_
        show own_Run p e below Φ (T155.setTop (mkF m 109 #[.val (.ref a1), .val (.int (1 : Int32)), .val (.int (1 : Int32))] [(.int (1 : Int32)), (.ref sx)]))
        refine own_callV X155 hx hZ (y := (⟨"java/lang/String", "charAt", "(I)C"⟩ : MethodName)) (z := (⟨"java/lang/String", "charAt", "(I)C"⟩ : MethodName)) (W := 0) (a := sx) (argsL := [(.int (1 : Int32))]) (rest := []) hown (hw _ (List.mem_of_getElem? (i := 72) rfl)) (hw _ (List.mem_of_getElem? (i := 73) rfl)) (notFace_of_selects (args := #[]) (mvT hZ (hw _ (List.mem_of_getElem? (i := 75) rfl)))) (hw _ (List.mem_of_getElem? (i := 75) rfl)) (hw _ (List.mem_of_getElem? (i := 74) rfl)) (by decide) (own_bk (rm_ch1 l Z a0 hw sx g1 g3 tx kx _ _ _ h144 n0 F148 H7 hg5 H9 hr F149 F150 F151 F152 hy.2.1) hZ (hw _ (List.mem_of_getElem? (i := 76) rfl)) (hw _ (List.mem_of_getElem? (i := 7) rfl)) (by decide) (by decide)) e155 F149 (g := (mkF m 109 #[.val (.ref a1), .val (.int (1 : Int32)), .val (.int (1 : Int32))] [(.int (1 : Int32)), (.ref sx)])) rfl (by rw [hml]; rfl) (lenOf pd_0 rfl) rfl (by show 2 * 0 + _ ≤ _; exact Nat.le_of_eq rfl) (hb hby d10_109) (by decide) (by decide) (fun v156 T156 h156 L156 X156 e156 q156 => ?_)
        obtain ⟨rfl, M156, s156⟩ := q156
        replace e156 : T156.heap = h144 := e156.trans s156
        have N156 := Fr.app N153 M156
        refine own_callS X156 hx hZ (y := (⟨"com/example/profitmine/profitmine/io/Fields", "isBlank", "(C)Z"⟩ : MethodName)) (W := 0) (argsL := [(.int y1)]) (rest := []) hown (hw _ (List.mem_of_getElem? (i := 94) rfl)) (hw _ (List.mem_of_getElem? (i := 95) rfl)) (hw _ (List.mem_of_getElem? (i := 36) rfl)) (hw _ (List.mem_of_getElem? (i := 96) rfl)) (by decide) (own_bk (rm_ib l Z a0 hw y1 h144 n0 ) hZ (hw _ (List.mem_of_getElem? (i := 96) rfl)) (hw _ (List.mem_of_getElem? (i := 36) rfl)) (by decide) (by decide)) e156 (g := (mkF m 112 #[.val (.ref a1), .val (.int (1 : Int32)), .val (.int (1 : Int32))] [(.int y1)])) rfl (by rw [hml]; rfl) (lenOf pd_14 rfl) rfl (by show 2 * 0 + _ ≤ _; exact Nat.le_of_eq rfl) (hb hby d10_112) (by decide) (by decide) (fun v157 T157 h157 L157 X157 e157 q157 => ?_)
        obtain ⟨rfl, M157, s157⟩ := q157
        replace e157 : T157.heap = h144 := e157.trans s157
        have N157 := Fr.app N156 M157
        refine own_go (fun t k => XS.ifNo X157.here hx rfl (hb hby d10_115) rfl ((if0 _ _).trans (teq hc27_2).2) k) ?_
        refine own_go (fun t k => XS.aloadN X157.here hx rfl (hb hby d10_118) rfl rfl  k) ?_
        refine own_go (fun t k => XS.dup X157.here hx rfl (hb hby d10_119) rfl rfl k) ?_
        obtain ⟨T158, X158, e158, st158⟩ := getF X157 hx hZ hown (host := "") (Or.inl (hw _ (List.mem_of_getElem? (i := 55) rfl))) Via.refl e157 G144 (g := (mkF m 120 #[.val (.ref a1), .val (.int (1 : Int32)), .val (.int (1 : Int32))] [(.ref a1), (.ref a1)])) rfl rfl (hb hby d10_120)
        refine own_go st158 ?_
        refine own_go (fun t k => XS.iconst X158.here hx rfl (hb hby d10_123) k) ?_
        refine own_go (fun t k => XS.iadd X158.here hx rfl (hb hby d10_124) rfl k) ?_
        show own_Run p e below Φ (T158.setTop (mkF m 125 #[.val (.ref a1), .val (.int (1 : Int32)), .val (.int (1 : Int32))] [(.int ((1 : Int32) + (1 : Int32))), (.ref a1)]))
        rw [show ((1 : Int32) + (1 : Int32)) = (2 : Int32) from by decide]
        show own_Run p e below Φ (T158.setTop (mkF m 125 #[.val (.ref a1), .val (.int (1 : Int32)), .val (.int (1 : Int32))] [(.int (2 : Int32)), (.ref a1)]))
        have F159 : Exa Z h144 a1 "com/example/profitmine/profitmine/io/Fields" := (F143.wr W144)
        obtain ⟨T160, h160, X160, e160, W160, st160⟩ := putF X158 hx hZ hown (host := "") (Or.inl (hw _ (List.mem_of_getElem? (i := 55) rfl))) Via.refl e158 G144 F159 (Or.inl (hw _ (List.mem_of_getElem? (i := 56) rfl))) (hw _ (List.mem_of_getElem? (i := 35) rfl)) (ty := .int) (by decide) rfl rfl (g := (mkF m 125 #[.val (.ref a1), .val (.int (1 : Int32)), .val (.int (1 : Int32))] [(.int (2 : Int32)), (.ref a1)])) rfl rfl (hb hby d10_125)
        refine own_go st160 ?_
        have G160 : Fld Z h160 a1 "com/example/profitmine/profitmine/io/Fields" "end" "I" (.int (2 : Int32)) := G144.same W160
        have N160 := Fr.snoc X160 N157 H15
        refine own_go (fun t k => XS.goto X160.here hx rfl (pc0 := 128) (pc' := 87) rfl (hb hby d10_128) (by decide) (by decide) k) ?_
        refine own_go (fun t k => XS.aloadN X160.here hx rfl (hb hby d10_87) rfl rfl  k) ?_
        obtain ⟨T161, X161, e161, st161⟩ := getF X160 hx hZ hown (host := "") (Or.inl (hw _ (List.mem_of_getElem? (i := 55) rfl))) Via.refl e160 G160 (g := (mkF m 88 #[.val (.ref a1), .val (.int (1 : Int32)), .val (.int (1 : Int32))] [(.ref a1)])) rfl rfl (hb hby d10_88)
        refine own_go st161 ?_
        refine own_go (fun t k => XS.aloadN X161.here hx rfl (hb hby d10_91) rfl rfl  k) ?_
        have F162 : Fld Z h160 a1 "com/example/profitmine/profitmine/io/Fields" "line" "Ljava/lang/String;" (.ref sx) := (F146.other W160 (Or.inr (slot_ne (Or.inl (hw _ (List.mem_of_getElem? (i := 45) rfl))) (Or.inl (hw _ (List.mem_of_getElem? (i := 56) rfl))) (by decide) (t := (.object "java/lang/String")) (t' := .int) (by decide) (by decide))))
        obtain ⟨T163, X163, e163, st163⟩ := getF X161 hx hZ hown (host := "") (Or.inl (hw _ (List.mem_of_getElem? (i := 44) rfl))) Via.refl e161 F162 (g := (mkF m 92 #[.val (.ref a1), .val (.int (1 : Int32)), .val (.int (1 : Int32))] [(.ref a1), (.int (2 : Int32))])) rfl rfl (hb hby d10_92)
        refine own_go st163 ?_
        have F164 : Old Z n0 h160 := (F148.wr W160 H15)
        have F165 : Exa Z h160 sx "java/lang/String" := (F149.wr W160)
        have F166 : Fld Z h160 sx "java/lang/String" "value" "[B" (.ref tx) := (F150.other W160 (Or.inl H16))
        have F167 : Fld Z h160 sx "java/lang/String" "coder" "B" (.int (0 : Int32)) := (F151.other W160 (Or.inl H16))
        have F168 : Arv Z h160 tx kx .byte (3 : Int32) [(.int (y0.toInt8.toInt32)), (.int (y1.toInt8.toInt32)), (.int (y2.toInt8.toInt32))] (.int 0) := (F152.other W160 H17)
        refine own_callV X163 hx hZ (y := (⟨"java/lang/String", "length", "()I"⟩ : MethodName)) (z := (⟨"java/lang/String", "length", "()I"⟩ : MethodName)) (W := 1) (a := sx) (argsL := []) (rest := [(.int (2 : Int32))]) hown (hw _ (List.mem_of_getElem? (i := 62) rfl)) (hw _ (List.mem_of_getElem? (i := 63) rfl)) (notFace_of_selects (args := #[]) (mvT hZ (hw _ (List.mem_of_getElem? (i := 65) rfl)))) (hw _ (List.mem_of_getElem? (i := 65) rfl)) (hw _ (List.mem_of_getElem? (i := 64) rfl)) (by decide) (own_bk (rm_le l Z a0 hw sx g1 tx kx _ _ _ h160 n0 F164 H7 hg5 F165 F166 F167 F168) hZ (hw _ (List.mem_of_getElem? (i := 66) rfl)) (hw _ (List.mem_of_getElem? (i := 7) rfl)) (by decide) (by decide)) e163 F165 (g := (mkF m 95 #[.val (.ref a1), .val (.int (1 : Int32)), .val (.int (1 : Int32))] [(.ref sx), (.int (2 : Int32))])) rfl (by rw [hml]; rfl) (lenOf pd_9 rfl) rfl (by show 2 * 0 + _ ≤ _; exact Nat.le_of_eq rfl) (hb hby d10_95) (by decide) (by decide) (fun v169 T169 h169 L169 X169 e169 q169 => ?_)
        obtain ⟨rfl, M169, s169⟩ := q169
        replace e169 : T169.heap = h160 := e169.trans s169
        have N169 := Fr.app N160 M169
        refine own_go (fun t k => XS.icmpNo X169.here hx rfl (hb hby d10_98) rfl (tlt (by decide : (2 : Int32) < (3 : Int32))).2.1 k) ?_
        refine own_go (fun t k => XS.aloadN X169.here hx rfl (hb hby d10_101) rfl rfl  k) ?_
        show own_Run p e below Φ (T169.setTop (mkF m 102 #[.val (.ref a1), .val (.int (1 : Int32)), .val (.int (1 : Int32))] [(.ref a1)]))
        obtain ⟨T170, X170, e170, st170⟩ := getF X169 hx hZ hown (host := "") (Or.inl (hw _ (List.mem_of_getElem? (i := 44) rfl))) Via.refl e169 F162 (g := (mkF m 102 #[.val (.ref a1), .val (.int (1 : Int32)), .val (.int (1 : Int32))] [(.ref a1)])) rfl rfl (hb hby d10_102)
        refine own_go st170 ?_
        refine own_go (fun t k => XS.aloadN X170.here hx rfl (hb hby d10_105) rfl rfl  k) ?_
        obtain ⟨T171, X171, e171, st171⟩ := getF X170 hx hZ hown (host := "") (Or.inl (hw _ (List.mem_of_getElem? (i := 55) rfl))) Via.refl e170 G160 (g := (mkF m 106 #[.val (.ref a1), .val (.int (1 : Int32)), .val (.int (1 : Int32))] [(.ref a1), (.ref sx)])) rfl rfl (hb hby d10_106)
        refine own_go st171 ?_
        refine own_callV X171 hx hZ (y := (⟨"java/lang/String", "charAt", "(I)C"⟩ : MethodName)) (z := (⟨"java/lang/String", "charAt", "(I)C"⟩ : MethodName)) (W := 0) (a := sx) (argsL := [(.int (2 : Int32))]) (rest := []) hown (hw _ (List.mem_of_getElem? (i := 72) rfl)) (hw _ (List.mem_of_getElem? (i := 73) rfl)) (notFace_of_selects (args := #[]) (mvT hZ (hw _ (List.mem_of_getElem? (i := 75) rfl)))) (hw _ (List.mem_of_getElem? (i := 75) rfl)) (hw _ (List.mem_of_getElem? (i := 74) rfl)) (by decide) (own_bk (rm_ch2 l Z a0 hw sx g1 g3 tx kx _ _ _ h160 n0 F164 H7 hg5 H9 hr F165 F166 F167 F168 hy.2.2) hZ (hw _ (List.mem_of_getElem? (i := 76) rfl)) (hw _ (List.mem_of_getElem? (i := 7) rfl)) (by decide) (by decide)) e171 F165 (g := (mkF m 109 #[.val (.ref a1), .val (.int (1 : Int32)), .val (.int (1 : Int32))] [(.int (2 : Int32)), (.ref sx)])) rfl (by rw [hml]; rfl) (lenOf pd_0 rfl) rfl (by show 2 * 0 + _ ≤ _; exact Nat.le_of_eq rfl) (hb hby d10_109) (by decide) (by decide) (fun v172 T172 h172 L172 X172 e172 q172 => ?_)
        obtain ⟨rfl, M172, s172⟩ := q172
        replace e172 : T172.heap = h160 := e172.trans s172
        have N172 := Fr.app N169 M172
        refine own_callS X172 hx hZ (y := (⟨"com/example/profitmine/profitmine/io/Fields", "isBlank", "(C)Z"⟩ : MethodName)) (W := 0) (argsL := [(.int y2)]) (rest := []) hown (hw _ (List.mem_of_getElem? (i := 94) rfl)) (hw _ (List.mem_of_getElem? (i := 95) rfl)) (hw _ (List.mem_of_getElem? (i := 36) rfl)) (hw _ (List.mem_of_getElem? (i := 96) rfl)) (by decide) (own_bk (rm_ib l Z a0 hw y2 h160 n0 ) hZ (hw _ (List.mem_of_getElem? (i := 96) rfl)) (hw _ (List.mem_of_getElem? (i := 36) rfl)) (by decide) (by decide)) e172 (g := (mkF m 112 #[.val (.ref a1), .val (.int (1 : Int32)), .val (.int (1 : Int32))] [(.int y2)])) rfl (by rw [hml]; rfl) (lenOf pd_14 rfl) rfl (by show 2 * 0 + _ ≤ _; exact Nat.le_of_eq rfl) (hb hby d10_112) (by decide) (by decide) (fun v173 T173 h173 L173 X173 e173 q173 => ?_)
        obtain ⟨rfl, M173, s173⟩ := q173
        replace e173 : T173.heap = h160 := e173.trans s173
        have N173 := Fr.app N172 M173
        by_cases hc115 : (own_blk y2) = (0 : Int32)
        · refine own_go (fun t k => XS.ifNo X173.here hx rfl (hb hby d10_115) rfl ((if0 _ _).trans (teq hc115).2) k) ?_
          refine own_go (fun t k => XS.aloadN X173.here hx rfl (hb hby d10_118) rfl rfl  k) ?_
          refine own_go (fun t k => XS.dup X173.here hx rfl (hb hby d10_119) rfl rfl k) ?_
          obtain ⟨T174, X174, e174, st174⟩ := getF X173 hx hZ hown (host := "") (Or.inl (hw _ (List.mem_of_getElem? (i := 55) rfl))) Via.refl e173 G160 (g := (mkF m 120 #[.val (.ref a1), .val (.int (1 : Int32)), .val (.int (1 : Int32))] [(.ref a1), (.ref a1)])) rfl rfl (hb hby d10_120)
          refine own_go st174 ?_
          show own_Run p e below Φ (T174.setTop (mkF m 123 #[.val (.ref a1), .val (.int (1 : Int32)), .val (.int (1 : Int32))] [(.int (2 : Int32)), (.ref a1)]))
          refine own_go (fun t k => XS.iconst X174.here hx rfl (hb hby d10_123) k) ?_
          refine own_go (fun t k => XS.iadd X174.here hx rfl (hb hby d10_124) rfl k) ?_
          show own_Run p e below Φ (T174.setTop (mkF m 125 #[.val (.ref a1), .val (.int (1 : Int32)), .val (.int (1 : Int32))] [(.int ((2 : Int32) + (1 : Int32))), (.ref a1)]))
          rw [show ((2 : Int32) + (1 : Int32)) = (3 : Int32) from by decide]
          show own_Run p e below Φ (T174.setTop (mkF m 125 #[.val (.ref a1), .val (.int (1 : Int32)), .val (.int (1 : Int32))] [(.int (3 : Int32)), (.ref a1)]))
          have F175 : Exa Z h160 a1 "com/example/profitmine/profitmine/io/Fields" := (F159.wr W160)
          obtain ⟨T176, h176, X176, e176, W176, st176⟩ := putF X174 hx hZ hown (host := "") (Or.inl (hw _ (List.mem_of_getElem? (i := 55) rfl))) Via.refl e174 G160 F175 (Or.inl (hw _ (List.mem_of_getElem? (i := 56) rfl))) (hw _ (List.mem_of_getElem? (i := 35) rfl)) (ty := .int) (by decide) rfl rfl (g := (mkF m 125 #[.val (.ref a1), .val (.int (1 : Int32)), .val (.int (1 : Int32))] [(.int (3 : Int32)), (.ref a1)])) rfl rfl (hb hby d10_125)
          refine own_go st176 ?_
          have G176 : Fld Z h176 a1 "com/example/profitmine/profitmine/io/Fields" "end" "I" (.int (3 : Int32)) := G160.same W176
          have N176 := Fr.snoc X176 N173 H15
          refine own_go (fun t k => XS.goto X176.here hx rfl (pc0 := 128) (pc' := 87) rfl (hb hby d10_128) (by decide) (by decide) k) ?_
          refine own_go (fun t k => XS.aloadN X176.here hx rfl (hb hby d10_87) rfl rfl  k) ?_
          obtain ⟨T177, X177, e177, st177⟩ := getF X176 hx hZ hown (host := "") (Or.inl (hw _ (List.mem_of_getElem? (i := 55) rfl))) Via.refl e176 G176 (g := (mkF m 88 #[.val (.ref a1), .val (.int (1 : Int32)), .val (.int (1 : Int32))] [(.ref a1)])) rfl rfl (hb hby d10_88)
          refine own_go st177 ?_
          refine own_go (fun t k => XS.aloadN X177.here hx rfl (hb hby d10_91) rfl rfl  k) ?_
          have F178 : Fld Z h176 a1 "com/example/profitmine/profitmine/io/Fields" "line" "Ljava/lang/String;" (.ref sx) := (F162.other W176 (Or.inr (slot_ne (Or.inl (hw _ (List.mem_of_getElem? (i := 45) rfl))) (Or.inl (hw _ (List.mem_of_getElem? (i := 56) rfl))) (by decide) (t := (.object "java/lang/String")) (t' := .int) (by decide) (by decide))))
          obtain ⟨T179, X179, e179, st179⟩ := getF X177 hx hZ hown (host := "") (Or.inl (hw _ (List.mem_of_getElem? (i := 44) rfl))) Via.refl e177 F178 (g := (mkF m 92 #[.val (.ref a1), .val (.int (1 : Int32)), .val (.int (1 : Int32))] [(.ref a1), (.int (3 : Int32))])) rfl rfl (hb hby d10_92)
          refine own_go st179 ?_
          have F180 : Old Z n0 h176 := (F164.wr W176 H15)
          have F181 : Exa Z h176 sx "java/lang/String" := (F165.wr W176)
          have F182 : Fld Z h176 sx "java/lang/String" "value" "[B" (.ref tx) := (F166.other W176 (Or.inl H16))
          have F183 : Fld Z h176 sx "java/lang/String" "coder" "B" (.int (0 : Int32)) := (F167.other W176 (Or.inl H16))
          have F184 : Arv Z h176 tx kx .byte (3 : Int32) [(.int (y0.toInt8.toInt32)), (.int (y1.toInt8.toInt32)), (.int (y2.toInt8.toInt32))] (.int 0) := (F168.other W176 H17)
          refine own_callV X179 hx hZ (y := (⟨"java/lang/String", "length", "()I"⟩ : MethodName)) (z := (⟨"java/lang/String", "length", "()I"⟩ : MethodName)) (W := 1) (a := sx) (argsL := []) (rest := [(.int (3 : Int32))]) hown (hw _ (List.mem_of_getElem? (i := 62) rfl)) (hw _ (List.mem_of_getElem? (i := 63) rfl)) (notFace_of_selects (args := #[]) (mvT hZ (hw _ (List.mem_of_getElem? (i := 65) rfl)))) (hw _ (List.mem_of_getElem? (i := 65) rfl)) (hw _ (List.mem_of_getElem? (i := 64) rfl)) (by decide) (own_bk (rm_le l Z a0 hw sx g1 tx kx _ _ _ h176 n0 F180 H7 hg5 F181 F182 F183 F184) hZ (hw _ (List.mem_of_getElem? (i := 66) rfl)) (hw _ (List.mem_of_getElem? (i := 7) rfl)) (by decide) (by decide)) e179 F181 (g := (mkF m 95 #[.val (.ref a1), .val (.int (1 : Int32)), .val (.int (1 : Int32))] [(.ref sx), (.int (3 : Int32))])) rfl (by rw [hml]; rfl) (lenOf pd_9 rfl) rfl (by show 2 * 0 + _ ≤ _; exact Nat.le_of_eq rfl) (hb hby d10_95) (by decide) (by decide) (fun v185 T185 h185 L185 X185 e185 q185 => ?_)
          obtain ⟨rfl, M185, s185⟩ := q185
          replace e185 : T185.heap = h176 := e185.trans s185
          have N185 := Fr.app N176 M185
          refine own_go (fun t k => XS.icmpYes X185.here hx rfl (pc0 := 98) (pc' := 131) rfl (hb hby d10_98) rfl (flt (by decide : ¬ ((3 : Int32) < (3 : Int32)))).2.1 (by decide) (by decide) k) ?_
          refine own_go (fun t k => XS.aloadN X185.here hx rfl (hb hby d10_131) rfl rfl  k) ?_
          show own_Run p e below Φ (T185.setTop (mkF m 132 #[.val (.ref a1), .val (.int (1 : Int32)), .val (.int (1 : Int32))] [(.ref a1)]))
          refine own_go (fun t k => XS.dup X185.here hx rfl (hb hby d10_132) rfl rfl k) ?_
          have F186 : Fld Z h176 a1 "com/example/profitmine/profitmine/io/Fields" "count" "I" (.int (0 : Int32)) := ((((H5.other W141 (Or.inr (slot_ne (Or.inl (hw _ (List.mem_of_getElem? (i := 52) rfl))) (Or.inl (hw _ (List.mem_of_getElem? (i := 54) rfl))) (by decide) (t := .int) (t' := .int) (by decide) (by decide)))).other W144 (Or.inr (slot_ne (Or.inl (hw _ (List.mem_of_getElem? (i := 52) rfl))) (Or.inl (hw _ (List.mem_of_getElem? (i := 56) rfl))) (by decide) (t := .int) (t' := .int) (by decide) (by decide)))).other W160 (Or.inr (slot_ne (Or.inl (hw _ (List.mem_of_getElem? (i := 52) rfl))) (Or.inl (hw _ (List.mem_of_getElem? (i := 56) rfl))) (by decide) (t := .int) (t' := .int) (by decide) (by decide)))).other W176 (Or.inr (slot_ne (Or.inl (hw _ (List.mem_of_getElem? (i := 52) rfl))) (Or.inl (hw _ (List.mem_of_getElem? (i := 56) rfl))) (by decide) (t := .int) (t' := .int) (by decide) (by decide))))
          obtain ⟨T187, X187, e187, st187⟩ := getF X185 hx hZ hown (host := "") (Or.inl (hw _ (List.mem_of_getElem? (i := 51) rfl))) Via.refl e185 F186 (g := (mkF m 133 #[.val (.ref a1), .val (.int (1 : Int32)), .val (.int (1 : Int32))] [(.ref a1), (.ref a1)])) rfl rfl (hb hby d10_133)
          refine own_go st187 ?_
          refine own_go (fun t k => XS.iconst X187.here hx rfl (hb hby d10_136) k) ?_
          refine own_go (fun t k => XS.iadd X187.here hx rfl (hb hby d10_137) rfl k) ?_
          show own_Run p e below Φ (T187.setTop (mkF m 138 #[.val (.ref a1), .val (.int (1 : Int32)), .val (.int (1 : Int32))] [(.int ((0 : Int32) + (1 : Int32))), (.ref a1)]))
          rw [show ((0 : Int32) + (1 : Int32)) = (1 : Int32) from by decide]
          show own_Run p e below Φ (T187.setTop (mkF m 138 #[.val (.ref a1), .val (.int (1 : Int32)), .val (.int (1 : Int32))] [(.int (1 : Int32)), (.ref a1)]))
          have F188 : Exa Z h176 a1 "com/example/profitmine/profitmine/io/Fields" := (F175.wr W176)
          obtain ⟨T189, h189, X189, e189, W189, st189⟩ := putF X187 hx hZ hown (host := "") (Or.inl (hw _ (List.mem_of_getElem? (i := 51) rfl))) Via.refl e187 F186 F188 (Or.inl (hw _ (List.mem_of_getElem? (i := 52) rfl))) (hw _ (List.mem_of_getElem? (i := 35) rfl)) (ty := .int) (by decide) rfl rfl (g := (mkF m 138 #[.val (.ref a1), .val (.int (1 : Int32)), .val (.int (1 : Int32))] [(.int (1 : Int32)), (.ref a1)])) rfl rfl (hb hby d10_138)
          refine own_go st189 ?_
          have G189 : Fld Z h189 a1 "com/example/profitmine/profitmine/io/Fields" "count" "I" (.int (1 : Int32)) := F186.same W189
          have N189 := Fr.snoc X189 N185 H15
          refine own_go (fun t k => XS.goto X189.here hx rfl (pc0 := 141) (pc' := 166) rfl (hb hby d10_141) (by decide) (by decide) k) ?_
          refine own_go (fun t k => XS.iloadN X189.here hx rfl (hb hby d10_166) rfl  k) ?_
          have F190 : Keep h0 h189 [a1] := (((((K0.wr W141 (Or.inl (List.mem_of_getElem? (i := 0) rfl))).wr W144 (Or.inl (List.mem_of_getElem? (i := 0) rfl))).wr W160 (Or.inl (List.mem_of_getElem? (i := 0) rfl))).wr W176 (Or.inl (List.mem_of_getElem? (i := 0) rfl))).wr W189 (Or.inl (List.mem_of_getElem? (i := 0) rfl)))
          have F191 : Fld Z h189 a1 "com/example/profitmine/profitmine/io/Fields" "line" "Ljava/lang/String;" (.ref sx) := (F178.other W189 (Or.inr (slot_ne (Or.inl (hw _ (List.mem_of_getElem? (i := 45) rfl))) (Or.inl (hw _ (List.mem_of_getElem? (i := 52) rfl))) (by decide) (t := (.object "java/lang/String")) (t' := .int) (by decide) (by decide))))
          have F192 : Fld Z h189 a1 "com/example/profitmine/profitmine/io/Fields" "start" "I" (.int (1 : Int32)) := ((((G141.other W144 (Or.inr (slot_ne (Or.inl (hw _ (List.mem_of_getElem? (i := 54) rfl))) (Or.inl (hw _ (List.mem_of_getElem? (i := 56) rfl))) (by decide) (t := .int) (t' := .int) (by decide) (by decide)))).other W160 (Or.inr (slot_ne (Or.inl (hw _ (List.mem_of_getElem? (i := 54) rfl))) (Or.inl (hw _ (List.mem_of_getElem? (i := 56) rfl))) (by decide) (t := .int) (t' := .int) (by decide) (by decide)))).other W176 (Or.inr (slot_ne (Or.inl (hw _ (List.mem_of_getElem? (i := 54) rfl))) (Or.inl (hw _ (List.mem_of_getElem? (i := 56) rfl))) (by decide) (t := .int) (t' := .int) (by decide) (by decide)))).other W189 (Or.inr (slot_ne (Or.inl (hw _ (List.mem_of_getElem? (i := 54) rfl))) (Or.inl (hw _ (List.mem_of_getElem? (i := 52) rfl))) (by decide) (t := .int) (t' := .int) (by decide) (by decide))))
          have F193 : Fld Z h189 a1 "com/example/profitmine/profitmine/io/Fields" "end" "I" (.int (3 : Int32)) := (G176.other W189 (Or.inr (slot_ne (Or.inl (hw _ (List.mem_of_getElem? (i := 56) rfl))) (Or.inl (hw _ (List.mem_of_getElem? (i := 52) rfl))) (by decide) (t := .int) (t' := .int) (by decide) (by decide))))
          subst hΦ
          exact own_retN X189 hx (t := .boolean) Bd.returns (by simp) hlk (hb hby d10_167) e189 ⟨(by unfold own_fd; rw [if_neg hc27, if_pos hc27_2, if_neg hc64]; first | done | rfl), N189, F190, F191, (by unfold own_es; rw [if_neg hc27, if_pos hc27_2, if_neg hc64]; exact F192), (by unfold own_ee; rw [if_neg hc27, if_pos hc27_2, if_neg hc64, if_pos hc115]; exact F193)⟩ (by decide) (by decide)
        · refine own_go (fun t k => XS.ifYes X173.here hx rfl (pc0 := 115) (pc' := 131) rfl (hb hby d10_115) rfl ((if0 _ _).trans (feq hc115).2) (by decide) (by decide) k) ?_
          refine own_go (fun t k => XS.aloadN X173.here hx rfl (hb hby d10_131) rfl rfl  k) ?_
          refine own_go (fun t k => XS.dup X173.here hx rfl (hb hby d10_132) rfl rfl k) ?_
          have F194 : Fld Z h160 a1 "com/example/profitmine/profitmine/io/Fields" "count" "I" (.int (0 : Int32)) := (((H5.other W141 (Or.inr (slot_ne (Or.inl (hw _ (List.mem_of_getElem? (i := 52) rfl))) (Or.inl (hw _ (List.mem_of_getElem? (i := 54) rfl))) (by decide) (t := .int) (t' := .int) (by decide) (by decide)))).other W144 (Or.inr (slot_ne (Or.inl (hw _ (List.mem_of_getElem? (i := 52) rfl))) (Or.inl (hw _ (List.mem_of_getElem? (i := 56) rfl))) (by decide) (t := .int) (t' := .int) (by decide) (by decide)))).other W160 (Or.inr (slot_ne (Or.inl (hw _ (List.mem_of_getElem? (i := 52) rfl))) (Or.inl (hw _ (List.mem_of_getElem? (i := 56) rfl))) (by decide) (t := .int) (t' := .int) (by decide) (by decide))))
          obtain ⟨T195, X195, e195, st195⟩ := getF X173 hx hZ hown (host := "") (Or.inl (hw _ (List.mem_of_getElem? (i := 51) rfl))) Via.refl e173 F194 (g := (mkF m 133 #[.val (.ref a1), .val (.int (1 : Int32)), .val (.int (1 : Int32))] [(.ref a1), (.ref a1)])) rfl rfl (hb hby d10_133)
          refine own_go st195 ?_
          refine own_go (fun t k => XS.iconst X195.here hx rfl (hb hby d10_136) k) ?_
          refine own_go (fun t k => XS.iadd X195.here hx rfl (hb hby d10_137) rfl k) ?_
          show own_Run p e below Φ (T195.setTop (mkF m 138 #[.val (.ref a1), .val (.int (1 : Int32)), .val (.int (1 : Int32))] [(.int ((0 : Int32) + (1 : Int32))), (.ref a1)]))
          rw [show ((0 : Int32) + (1 : Int32)) = (1 : Int32) from by decide]
          show own_Run p e below Φ (T195.setTop (mkF m 138 #[.val (.ref a1), .val (.int (1 : Int32)), .val (.int (1 : Int32))] [(.int (1 : Int32)), (.ref a1)]))
          have F196 : Exa Z h160 a1 "com/example/profitmine/profitmine/io/Fields" := (F159.wr W160)
          obtain ⟨T197, h197, X197, e197, W197, st197⟩ := putF X195 hx hZ hown (host := "") (Or.inl (hw _ (List.mem_of_getElem? (i := 51) rfl))) Via.refl e195 F194 F196 (Or.inl (hw _ (List.mem_of_getElem? (i := 52) rfl))) (hw _ (List.mem_of_getElem? (i := 35) rfl)) (ty := .int) (by decide) rfl rfl (g := (mkF m 138 #[.val (.ref a1), .val (.int (1 : Int32)), .val (.int (1 : Int32))] [(.int (1 : Int32)), (.ref a1)])) rfl rfl (hb hby d10_138)
          refine own_go st197 ?_
          have G197 : Fld Z h197 a1 "com/example/profitmine/profitmine/io/Fields" "count" "I" (.int (1 : Int32)) := F194.same W197
          have N197 := Fr.snoc X197 N173 H15
          refine own_go (fun t k => XS.goto X197.here hx rfl (pc0 := 141) (pc' := 166) rfl (hb hby d10_141) (by decide) (by decide) k) ?_
          refine own_go (fun t k => XS.iloadN X197.here hx rfl (hb hby d10_166) rfl  k) ?_
          have F198 : Keep h0 h197 [a1] := ((((K0.wr W141 (Or.inl (List.mem_of_getElem? (i := 0) rfl))).wr W144 (Or.inl (List.mem_of_getElem? (i := 0) rfl))).wr W160 (Or.inl (List.mem_of_getElem? (i := 0) rfl))).wr W197 (Or.inl (List.mem_of_getElem? (i := 0) rfl)))
          have F199 : Fld Z h197 a1 "com/example/profitmine/profitmine/io/Fields" "line" "Ljava/lang/String;" (.ref sx) := (F162.other W197 (Or.inr (slot_ne (Or.inl (hw _ (List.mem_of_getElem? (i := 45) rfl))) (Or.inl (hw _ (List.mem_of_getElem? (i := 52) rfl))) (by decide) (t := (.object "java/lang/String")) (t' := .int) (by decide) (by decide))))
          have F200 : Fld Z h197 a1 "com/example/profitmine/profitmine/io/Fields" "start" "I" (.int (1 : Int32)) := (((G141.other W144 (Or.inr (slot_ne (Or.inl (hw _ (List.mem_of_getElem? (i := 54) rfl))) (Or.inl (hw _ (List.mem_of_getElem? (i := 56) rfl))) (by decide) (t := .int) (t' := .int) (by decide) (by decide)))).other W160 (Or.inr (slot_ne (Or.inl (hw _ (List.mem_of_getElem? (i := 54) rfl))) (Or.inl (hw _ (List.mem_of_getElem? (i := 56) rfl))) (by decide) (t := .int) (t' := .int) (by decide) (by decide)))).other W197 (Or.inr (slot_ne (Or.inl (hw _ (List.mem_of_getElem? (i := 54) rfl))) (Or.inl (hw _ (List.mem_of_getElem? (i := 52) rfl))) (by decide) (t := .int) (t' := .int) (by decide) (by decide))))
          have F201 : Fld Z h197 a1 "com/example/profitmine/profitmine/io/Fields" "end" "I" (.int (2 : Int32)) := (G160.other W197 (Or.inr (slot_ne (Or.inl (hw _ (List.mem_of_getElem? (i := 56) rfl))) (Or.inl (hw _ (List.mem_of_getElem? (i := 52) rfl))) (by decide) (t := .int) (t' := .int) (by decide) (by decide))))
          subst hΦ
          exact own_retN X197 hx (t := .boolean) Bd.returns (by simp) hlk (hb hby d10_167) e197 ⟨(by unfold own_fd; rw [if_neg hc27, if_pos hc27_2, if_neg hc64]; first | done | rfl), N197, F198, F199, (by unfold own_es; rw [if_neg hc27, if_pos hc27_2, if_neg hc64]; exact F200), (by unfold own_ee; rw [if_neg hc27, if_pos hc27_2, if_neg hc64, if_neg hc115]; exact F201)⟩ (by decide) (by decide)
    · refine own_go (fun t k => XS.ifNo X118.here hx rfl (hb hby d10_27) rfl ((if0 _ _).trans (feq hc27_2).1) k) ?_
      refine own_go (fun t k => XS.iinc X118.here hx rfl (hb hby d10_30) rfl (l' := #[.val (.ref a1), .val (.int ((1 : Int32) + (1 : Int32))), .unset]) rfl k) ?_
      show own_Run p e below Φ (T118.setTop (mkF m 33 #[.val (.ref a1), .val (.int ((1 : Int32) + (1 : Int32))), .unset] []))
      rw [show ((1 : Int32) + (1 : Int32)) = (2 : Int32) from by decide]
      show own_Run p e below Φ (T118.setTop (mkF m 33 #[.val (.ref a1), .val (.int (2 : Int32)), .unset] []))
      refine own_go (fun t k => XS.goto X118.here hx rfl (pc0 := 33) (pc' := 5) rfl (hb hby d10_33) (by decide) (by decide) k) ?_
      refine own_go (fun t k => XS.iloadN X118.here hx rfl (hb hby d10_5) rfl  k) ?_
      refine own_go (fun t k => XS.aloadN X118.here hx rfl (hb hby d10_6) rfl rfl  k) ?_
      obtain ⟨T202, X202, e202, st202⟩ := getF X118 hx hZ hown (host := "") (Or.inl (hw _ (List.mem_of_getElem? (i := 44) rfl))) Via.refl e118 H2 (g := (mkF m 7 #[.val (.ref a1), .val (.int (2 : Int32)), .unset] [(.ref a1), (.int (2 : Int32))])) rfl rfl (hb hby d10_7)
      refine own_go st202 ?_
      refine own_callV X202 hx hZ (y := (⟨"java/lang/String", "length", "()I"⟩ : MethodName)) (z := (⟨"java/lang/String", "length", "()I"⟩ : MethodName)) (W := 1) (a := sx) (argsL := []) (rest := [(.int (2 : Int32))]) hown (hw _ (List.mem_of_getElem? (i := 62) rfl)) (hw _ (List.mem_of_getElem? (i := 63) rfl)) (notFace_of_selects (args := #[]) (mvT hZ (hw _ (List.mem_of_getElem? (i := 65) rfl)))) (hw _ (List.mem_of_getElem? (i := 65) rfl)) (hw _ (List.mem_of_getElem? (i := 64) rfl)) (by decide) (own_bk (rm_le l Z a0 hw sx g1 tx kx _ _ _ h0 n0 H6 H7 hg5 H11 H12 H13 H14) hZ (hw _ (List.mem_of_getElem? (i := 66) rfl)) (hw _ (List.mem_of_getElem? (i := 7) rfl)) (by decide) (by decide)) e202 H11 (g := (mkF m 10 #[.val (.ref a1), .val (.int (2 : Int32)), .unset] [(.ref sx), (.int (2 : Int32))])) rfl (by rw [hml]; rfl) (lenOf pd_9 rfl) rfl (by show 2 * 0 + _ ≤ _; exact Nat.le_of_eq rfl) (hb hby d10_10) (by decide) (by decide) (fun v203 T203 h203 L203 X203 e203 q203 => ?_)
      obtain ⟨rfl, M203, s203⟩ := q203
      replace e203 : T203.heap = h0 := e203.trans s203
      have N203 := Fr.app N118 M203
      refine own_go (fun t k => XS.icmpNo X203.here hx rfl (hb hby d10_13) rfl (tlt (by decide : (2 : Int32) < (3 : Int32))).2.1 k) ?_
      refine own_go (fun t k => XS.aloadN X203.here hx rfl (hb hby d10_16) rfl rfl  k) ?_
      obtain ⟨T204, X204, e204, st204⟩ := getF X203 hx hZ hown (host := "") (Or.inl (hw _ (List.mem_of_getElem? (i := 44) rfl))) Via.refl e203 H2 (g := (mkF m 17 #[.val (.ref a1), .val (.int (2 : Int32)), .unset] [(.ref a1)])) rfl rfl (hb hby d10_17)
      refine own_go st204 ?_
      refine own_go (fun t k => XS.iloadN X204.here hx rfl (hb hby d10_20) rfl  k) ?_
      show own_Run p e below Φ (T204.setTop (mkF m 21 #[.val (.ref a1), .val (.int (2 : Int32)), .unset] [(.int (2 : Int32)), (.ref sx)]))
      refine own_callV X204 hx hZ (y := (⟨"java/lang/String", "charAt", "(I)C"⟩ : MethodName)) (z := (⟨"java/lang/String", "charAt", "(I)C"⟩ : MethodName)) (W := 0) (a := sx) (argsL := [(.int (2 : Int32))]) (rest := []) hown (hw _ (List.mem_of_getElem? (i := 72) rfl)) (hw _ (List.mem_of_getElem? (i := 73) rfl)) (notFace_of_selects (args := #[]) (mvT hZ (hw _ (List.mem_of_getElem? (i := 75) rfl)))) (hw _ (List.mem_of_getElem? (i := 75) rfl)) (hw _ (List.mem_of_getElem? (i := 74) rfl)) (by decide) (own_bk (rm_ch2 l Z a0 hw sx g1 g3 tx kx _ _ _ h0 n0 H6 H7 hg5 H9 hr H11 H12 H13 H14 hy.2.2) hZ (hw _ (List.mem_of_getElem? (i := 76) rfl)) (hw _ (List.mem_of_getElem? (i := 7) rfl)) (by decide) (by decide)) e204 H11 (g := (mkF m 21 #[.val (.ref a1), .val (.int (2 : Int32)), .unset] [(.int (2 : Int32)), (.ref sx)])) rfl (by rw [hml]; rfl) (lenOf pd_0 rfl) rfl (by show 2 * 0 + _ ≤ _; exact Nat.le_of_eq rfl) (hb hby d10_21) (by decide) (by decide) (fun v205 T205 h205 L205 X205 e205 q205 => ?_)
      obtain ⟨rfl, M205, s205⟩ := q205
      replace e205 : T205.heap = h0 := e205.trans s205
      have N205 := Fr.app N203 M205
      refine own_callS X205 hx hZ (y := (⟨"com/example/profitmine/profitmine/io/Fields", "isBlank", "(C)Z"⟩ : MethodName)) (W := 0) (argsL := [(.int y2)]) (rest := []) hown (hw _ (List.mem_of_getElem? (i := 94) rfl)) (hw _ (List.mem_of_getElem? (i := 95) rfl)) (hw _ (List.mem_of_getElem? (i := 36) rfl)) (hw _ (List.mem_of_getElem? (i := 96) rfl)) (by decide) (own_bk (rm_ib l Z a0 hw y2 h0 n0 ) hZ (hw _ (List.mem_of_getElem? (i := 96) rfl)) (hw _ (List.mem_of_getElem? (i := 36) rfl)) (by decide) (by decide)) e205 (g := (mkF m 24 #[.val (.ref a1), .val (.int (2 : Int32)), .unset] [(.int y2)])) rfl (by rw [hml]; rfl) (lenOf pd_14 rfl) rfl (by show 2 * 0 + _ ≤ _; exact Nat.le_of_eq rfl) (hb hby d10_24) (by decide) (by decide) (fun v206 T206 h206 L206 X206 e206 q206 => ?_)
      obtain ⟨rfl, M206, s206⟩ := q206
      replace e206 : T206.heap = h0 := e206.trans s206
      have N206 := Fr.app N205 M206
      by_cases hc27_3 : (own_blk y2) = (0 : Int32)
      · refine own_go (fun t k => XS.ifYes X206.here hx rfl (pc0 := 27) (pc' := 36) rfl (hb hby d10_27) rfl ((if0 _ _).trans (teq hc27_3).1) (by decide) (by decide) k) ?_
        refine own_go (fun t k => XS.iloadN X206.here hx rfl (hb hby d10_36) rfl  k) ?_
        refine own_go (fun t k => XS.aloadN X206.here hx rfl (hb hby d10_37) rfl rfl  k) ?_
        obtain ⟨T207, X207, e207, st207⟩ := getF X206 hx hZ hown (host := "") (Or.inl (hw _ (List.mem_of_getElem? (i := 44) rfl))) Via.refl e206 H2 (g := (mkF m 38 #[.val (.ref a1), .val (.int (2 : Int32)), .unset] [(.ref a1), (.int (2 : Int32))])) rfl rfl (hb hby d10_38)
        refine own_go st207 ?_
        refine own_callV X207 hx hZ (y := (⟨"java/lang/String", "length", "()I"⟩ : MethodName)) (z := (⟨"java/lang/String", "length", "()I"⟩ : MethodName)) (W := 1) (a := sx) (argsL := []) (rest := [(.int (2 : Int32))]) hown (hw _ (List.mem_of_getElem? (i := 62) rfl)) (hw _ (List.mem_of_getElem? (i := 63) rfl)) (notFace_of_selects (args := #[]) (mvT hZ (hw _ (List.mem_of_getElem? (i := 65) rfl)))) (hw _ (List.mem_of_getElem? (i := 65) rfl)) (hw _ (List.mem_of_getElem? (i := 64) rfl)) (by decide) (own_bk (rm_le l Z a0 hw sx g1 tx kx _ _ _ h0 n0 H6 H7 hg5 H11 H12 H13 H14) hZ (hw _ (List.mem_of_getElem? (i := 66) rfl)) (hw _ (List.mem_of_getElem? (i := 7) rfl)) (by decide) (by decide)) e207 H11 (g := (mkF m 41 #[.val (.ref a1), .val (.int (2 : Int32)), .unset] [(.ref sx), (.int (2 : Int32))])) rfl (by rw [hml]; rfl) (lenOf pd_9 rfl) rfl (by show 2 * 0 + _ ≤ _; exact Nat.le_of_eq rfl) (hb hby d10_41) (by decide) (by decide) (fun v208 T208 h208 L208 X208 e208 q208 => ?_)
        obtain ⟨rfl, M208, s208⟩ := q208
        replace e208 : T208.heap = h0 := e208.trans s208
        have N208 := Fr.app N206 M208
        refine own_go (fun t k => XS.icmpNo X208.here hx rfl (hb hby d10_44) rfl (tlt (by decide : (2 : Int32) < (3 : Int32))).2.1 k) ?_
        refine own_go (fun t k => XS.aloadN X208.here hx rfl (hb hby d10_47) rfl rfl  k) ?_
        show own_Run p e below Φ (T208.setTop (mkF m 48 #[.val (.ref a1), .val (.int (2 : Int32)), .unset] [(.ref a1)]))
        obtain ⟨T209, X209, e209, st209⟩ := getF X208 hx hZ hown (host := "") (Or.inl (hw _ (List.mem_of_getElem? (i := 51) rfl))) Via.refl e208 H5 (g := (mkF m 48 #[.val (.ref a1), .val (.int (2 : Int32)), .unset] [(.ref a1)])) rfl rfl (hb hby d10_48)
        refine own_go st209 ?_
        refine own_go (fun t k => XS.ifNo X209.here hx rfl (hb hby d10_51) rfl ((if0 _ _).trans (flt (by decide : ¬ ((0 : Int32) < (0 : Int32)))).2.2.1) k) ?_
        refine own_go (fun t k => XS.aloadN X209.here hx rfl (hb hby d10_54) rfl rfl  k) ?_
        obtain ⟨T210, X210, e210, st210⟩ := getF X209 hx hZ hown (host := "") (Or.inl (hw _ (List.mem_of_getElem? (i := 44) rfl))) Via.refl e209 H2 (g := (mkF m 55 #[.val (.ref a1), .val (.int (2 : Int32)), .unset] [(.ref a1)])) rfl rfl (hb hby d10_55)
        refine own_go st210 ?_
        refine own_go (fun t k => XS.iloadN X210.here hx rfl (hb hby d10_58) rfl  k) ?_
        refine own_callV X210 hx hZ (y := (⟨"java/lang/String", "charAt", "(I)C"⟩ : MethodName)) (z := (⟨"java/lang/String", "charAt", "(I)C"⟩ : MethodName)) (W := 0) (a := sx) (argsL := [(.int (2 : Int32))]) (rest := []) hown (hw _ (List.mem_of_getElem? (i := 72) rfl)) (hw _ (List.mem_of_getElem? (i := 73) rfl)) (notFace_of_selects (args := #[]) (mvT hZ (hw _ (List.mem_of_getElem? (i := 75) rfl)))) (hw _ (List.mem_of_getElem? (i := 75) rfl)) (hw _ (List.mem_of_getElem? (i := 74) rfl)) (by decide) (own_bk (rm_ch2 l Z a0 hw sx g1 g3 tx kx _ _ _ h0 n0 H6 H7 hg5 H9 hr H11 H12 H13 H14 hy.2.2) hZ (hw _ (List.mem_of_getElem? (i := 76) rfl)) (hw _ (List.mem_of_getElem? (i := 7) rfl)) (by decide) (by decide)) e210 H11 (g := (mkF m 59 #[.val (.ref a1), .val (.int (2 : Int32)), .unset] [(.int (2 : Int32)), (.ref sx)])) rfl (by rw [hml]; rfl) (lenOf pd_0 rfl) rfl (by show 2 * 0 + _ ≤ _; exact Nat.le_of_eq rfl) (hb hby d10_59) (by decide) (by decide) (fun v211 T211 h211 L211 X211 e211 q211 => ?_)
        obtain ⟨rfl, M211, s211⟩ := q211
        replace e211 : T211.heap = h0 := e211.trans s211
        have N211 := Fr.app N208 M211
        refine own_go (fun t k => XS.bipush X211.here hx rfl (hb hby d10_62) k) ?_
        by_cases hc64 : y2 = (35 : Int32)
        · refine own_go (fun t k => XS.icmpYes X211.here hx rfl (pc0 := 64) (pc' := 71) rfl (hb hby d10_64) rfl (teq hc64).1 (by decide) (by decide) k) ?_
          refine own_go (fun t k => XS.iconst X211.here hx rfl (hb hby d10_71) k) ?_
          show own_Run p e below Φ (T211.setTop (mkF m 72 #[.val (.ref a1), .val (.int (2 : Int32)), .unset] [(.int (0 : Int32))]))
          refine own_go (fun t k => XS.istoreN X211.here hx rfl (hb hby d10_72) rfl (l' := #[.val (.ref a1), .val (.int (2 : Int32)), .val (.int (0 : Int32))]) rfl k) ?_
          refine own_go (fun t k => XS.iloadN X211.here hx rfl (hb hby d10_73) rfl  k) ?_
          refine own_go (fun t k => XS.ifYes X211.here hx rfl (pc0 := 74) (pc' := 144) rfl (hb hby d10_74) rfl ((if0 _ _).trans (teq (rfl : (0 : Int32) = (0 : Int32))).1) (by decide) (by decide) k) ?_
          refine own_go (fun t k => XS.aloadN X211.here hx rfl (hb hby d10_144) rfl rfl  k) ?_
          refine own_go (fun t k => XS.aloadN X211.here hx rfl (hb hby d10_145) rfl rfl  k) ?_
          obtain ⟨T212, X212, e212, st212⟩ := getF X211 hx hZ hown (host := "") (Or.inl (hw _ (List.mem_of_getElem? (i := 44) rfl))) Via.refl e211 H2 (g := (mkF m 146 #[.val (.ref a1), .val (.int (2 : Int32)), .val (.int (0 : Int32))] [(.ref a1), (.ref a1)])) rfl rfl (hb hby d10_146)
          refine own_go st212 ?_
          refine own_callV X212 hx hZ (y := (⟨"java/lang/String", "length", "()I"⟩ : MethodName)) (z := (⟨"java/lang/String", "length", "()I"⟩ : MethodName)) (W := 1) (a := sx) (argsL := []) (rest := [(.ref a1)]) hown (hw _ (List.mem_of_getElem? (i := 62) rfl)) (hw _ (List.mem_of_getElem? (i := 63) rfl)) (notFace_of_selects (args := #[]) (mvT hZ (hw _ (List.mem_of_getElem? (i := 65) rfl)))) (hw _ (List.mem_of_getElem? (i := 65) rfl)) (hw _ (List.mem_of_getElem? (i := 64) rfl)) (by decide) (own_bk (rm_le l Z a0 hw sx g1 tx kx _ _ _ h0 n0 H6 H7 hg5 H11 H12 H13 H14) hZ (hw _ (List.mem_of_getElem? (i := 66) rfl)) (hw _ (List.mem_of_getElem? (i := 7) rfl)) (by decide) (by decide)) e212 H11 (g := (mkF m 149 #[.val (.ref a1), .val (.int (2 : Int32)), .val (.int (0 : Int32))] [(.ref sx), (.ref a1)])) rfl (by rw [hml]; rfl) (lenOf pd_9 rfl) rfl (by show 2 * 0 + _ ≤ _; exact Nat.le_of_eq rfl) (hb hby d10_149) (by decide) (by decide) (fun v213 T213 h213 L213 X213 e213 q213 => ?_)
          obtain ⟨rfl, M213, s213⟩ := q213
          replace e213 : T213.heap = h0 := e213.trans s213
          have N213 := Fr.app N211 M213
          obtain ⟨T214, h214, X214, e214, W214, st214⟩ := putF X213 hx hZ hown (host := "") (Or.inl (hw _ (List.mem_of_getElem? (i := 53) rfl))) Via.refl e213 H3 H1 (Or.inl (hw _ (List.mem_of_getElem? (i := 54) rfl))) (hw _ (List.mem_of_getElem? (i := 35) rfl)) (ty := .int) (by decide) rfl rfl (g := (mkF m 152 #[.val (.ref a1), .val (.int (2 : Int32)), .val (.int (0 : Int32))] [(.int (3 : Int32)), (.ref a1)])) rfl rfl (hb hby d10_152)
          refine own_go st214 ?_
          have G214 : Fld Z h214 a1 "com/example/profitmine/profitmine/io/Fields" "start" "I" (.int (3 : Int32)) := H3.same W214
          have N214 := Fr.snoc X214 N213 H15
          refine own_go (fun t k => XS.aloadN X214.here hx rfl (hb hby d10_155) rfl rfl  k) ?_
          show own_Run p e below Φ (T214.setTop (mkF m 156 #[.val (.ref a1), .val (.int (2 : Int32)), .val (.int (0 : Int32))] [(.ref a1)]))
          refine own_go (fun t k => XS.aloadN X214.here hx rfl (hb hby d10_156) rfl rfl  k) ?_
          have F215 : Fld Z h214 a1 "com/example/profitmine/profitmine/io/Fields" "line" "Ljava/lang/String;" (.ref sx) := (H2.other W214 (Or.inr (slot_ne (Or.inl (hw _ (List.mem_of_getElem? (i := 45) rfl))) (Or.inl (hw _ (List.mem_of_getElem? (i := 54) rfl))) (by decide) (t := (.object "java/lang/String")) (t' := .int) (by decide) (by decide))))
          obtain ⟨T216, X216, e216, st216⟩ := getF X214 hx hZ hown (host := "") (Or.inl (hw _ (List.mem_of_getElem? (i := 44) rfl))) Via.refl e214 F215 (g := (mkF m 157 #[.val (.ref a1), .val (.int (2 : Int32)), .val (.int (0 : Int32))] [(.ref a1), (.ref a1)])) rfl rfl (hb hby d10_157)
          refine own_go st216 ?_
          have F217 : Old Z n0 h214 := (H6.wr W214 H15)
          have F218 : Exa Z h214 sx "java/lang/String" := (H11.wr W214)
          have F219 : Fld Z h214 sx "java/lang/String" "value" "[B" (.ref tx) := (H12.other W214 (Or.inl H16))
          have F220 : Fld Z h214 sx "java/lang/String" "coder" "B" (.int (0 : Int32)) := (H13.other W214 (Or.inl H16))
          have F221 : Arv Z h214 tx kx .byte (3 : Int32) [(.int (y0.toInt8.toInt32)), (.int (y1.toInt8.toInt32)), (.int (y2.toInt8.toInt32))] (.int 0) := (H14.other W214 H17)
          refine own_callV X216 hx hZ (y := (⟨"java/lang/String", "length", "()I"⟩ : MethodName)) (z := (⟨"java/lang/String", "length", "()I"⟩ : MethodName)) (W := 1) (a := sx) (argsL := []) (rest := [(.ref a1)]) hown (hw _ (List.mem_of_getElem? (i := 62) rfl)) (hw _ (List.mem_of_getElem? (i := 63) rfl)) (notFace_of_selects (args := #[]) (mvT hZ (hw _ (List.mem_of_getElem? (i := 65) rfl)))) (hw _ (List.mem_of_getElem? (i := 65) rfl)) (hw _ (List.mem_of_getElem? (i := 64) rfl)) (by decide) (own_bk (rm_le l Z a0 hw sx g1 tx kx _ _ _ h214 n0 F217 H7 hg5 F218 F219 F220 F221) hZ (hw _ (List.mem_of_getElem? (i := 66) rfl)) (hw _ (List.mem_of_getElem? (i := 7) rfl)) (by decide) (by decide)) e216 F218 (g := (mkF m 160 #[.val (.ref a1), .val (.int (2 : Int32)), .val (.int (0 : Int32))] [(.ref sx), (.ref a1)])) rfl (by rw [hml]; rfl) (lenOf pd_9 rfl) rfl (by show 2 * 0 + _ ≤ _; exact Nat.le_of_eq rfl) (hb hby d10_160) (by decide) (by decide) (fun v222 T222 h222 L222 X222 e222 q222 => ?_)
          obtain ⟨rfl, M222, s222⟩ := q222
          replace e222 : T222.heap = h214 := e222.trans s222
          have N222 := Fr.app N214 M222
          have F223 : Fld Z h214 a1 "com/example/profitmine/profitmine/io/Fields" "end" "I" (.int (0 : Int32)) := (H4.other W214 (Or.inr (slot_ne (Or.inl (hw _ (List.mem_of_getElem? (i := 56) rfl))) (Or.inl (hw _ (List.mem_of_getElem? (i := 54) rfl))) (by decide) (t := .int) (t' := .int) (by decide) (by decide))))
          have F224 : Exa Z h214 a1 "com/example/profitmine/profitmine/io/Fields" := (H1.wr W214)
          obtain ⟨T225, h225, X225, e225, W225, st225⟩ := putF X222 hx hZ hown (host := "") (Or.inl (hw _ (List.mem_of_getElem? (i := 55) rfl))) Via.refl e222 F223 F224 (Or.inl (hw _ (List.mem_of_getElem? (i := 56) rfl))) (hw _ (List.mem_of_getElem? (i := 35) rfl)) (ty := .int) (by decide) rfl rfl (g := (mkF m 163 #[.val (.ref a1), .val (.int (2 : Int32)), .val (.int (0 : Int32))] [(.int (3 : Int32)), (.ref a1)])) rfl rfl (hb hby d10_163)
          refine own_go st225 ?_
          have G225 : Fld Z h225 a1 "com/example/profitmine/profitmine/io/Fields" "end" "I" (.int (3 : Int32)) := F223.same W225
          have N225 := Fr.snoc X225 N222 H15
          refine own_go (fun t k => XS.iloadN X225.here hx rfl (hb hby d10_166) rfl  k) ?_
          have F226 : Keep h0 h225 [a1] := ((K0.wr W214 (Or.inl (List.mem_of_getElem? (i := 0) rfl))).wr W225 (Or.inl (List.mem_of_getElem? (i := 0) rfl)))
          have F227 : Fld Z h225 a1 "com/example/profitmine/profitmine/io/Fields" "line" "Ljava/lang/String;" (.ref sx) := (F215.other W225 (Or.inr (slot_ne (Or.inl (hw _ (List.mem_of_getElem? (i := 45) rfl))) (Or.inl (hw _ (List.mem_of_getElem? (i := 56) rfl))) (by decide) (t := (.object "java/lang/String")) (t' := .int) (by decide) (by decide))))
          have F228 : Fld Z h225 a1 "com/example/profitmine/profitmine/io/Fields" "start" "I" (.int (3 : Int32)) := (G214.other W225 (Or.inr (slot_ne (Or.inl (hw _ (List.mem_of_getElem? (i := 54) rfl))) (Or.inl (hw _ (List.mem_of_getElem? (i := 56) rfl))) (by decide) (t := .int) (t' := .int) (by decide) (by decide))))
          subst hΦ
          exact own_retN X225 hx (t := .boolean) Bd.returns (by simp) hlk (hb hby d10_167) e225 ⟨(by unfold own_fd; rw [if_neg hc27, if_neg hc27_2, if_pos hc27_3, if_pos hc64]; first | done | rfl), N225, F226, F227, (by unfold own_es; rw [if_neg hc27, if_neg hc27_2, if_pos hc27_3, if_pos hc64]; exact F228), (by unfold own_ee; rw [if_neg hc27, if_neg hc27_2, if_pos hc27_3, if_pos hc64]; exact G225)⟩ (by decide) (by decide)
        · refine own_go (fun t k => XS.icmpNo X211.here hx rfl (hb hby d10_64) rfl (feq hc64).1 k) ?_
          refine own_go (fun t k => XS.iconst X211.here hx rfl (hb hby d10_67) k) ?_
          refine own_go (fun t k => XS.goto X211.here hx rfl (pc0 := 68) (pc' := 72) rfl (hb hby d10_68) (by decide) (by decide) k) ?_
          refine own_go (fun t k => XS.istoreN X211.here hx rfl (hb hby d10_72) rfl (l' := #[.val (.ref a1), .val (.int (2 : Int32)), .val (.int (1 : Int32))]) rfl k) ?_
          show own_Run p e below Φ (T211.setTop (mkF m 73 #[.val (.ref a1), .val (.int (2 : Int32)), .val (.int (1 : Int32))] []))
          refine own_go (fun t k => XS.iloadN X211.here hx rfl (hb hby d10_73) rfl  k) ?_
          refine own_go (fun t k => XS.ifNo X211.here hx rfl (hb hby d10_74) rfl ((if0 _ _).trans (feq (by decide : ¬ ((1 : Int32) = (0 : Int32)))).1) k) ?_
          refine own_go (fun t k => XS.aloadN X211.here hx rfl (hb hby d10_77) rfl rfl  k) ?_
          refine own_go (fun t k => XS.iloadN X211.here hx rfl (hb hby d10_78) rfl  k) ?_
          obtain ⟨T229, h229, X229, e229, W229, st229⟩ := putF X211 hx hZ hown (host := "") (Or.inl (hw _ (List.mem_of_getElem? (i := 53) rfl))) Via.refl e211 H3 H1 (Or.inl (hw _ (List.mem_of_getElem? (i := 54) rfl))) (hw _ (List.mem_of_getElem? (i := 35) rfl)) (ty := .int) (by decide) rfl rfl (g := (mkF m 79 #[.val (.ref a1), .val (.int (2 : Int32)), .val (.int (1 : Int32))] [(.int (2 : Int32)), (.ref a1)])) rfl rfl (hb hby d10_79)
          refine own_go st229 ?_
          have G229 : Fld Z h229 a1 "com/example/profitmine/profitmine/io/Fields" "start" "I" (.int (2 : Int32)) := H3.same W229
          have N229 := Fr.snoc X229 N211 H15
          refine own_go (fun t k => XS.aloadN X229.here hx rfl (hb hby d10_82) rfl rfl  k) ?_
          refine own_go (fun t k => XS.iloadN X229.here hx rfl (hb hby d10_83) rfl  k) ?_
          have F230 : Fld Z h229 a1 "com/example/profitmine/profitmine/io/Fields" "end" "I" (.int (0 : Int32)) := (H4.other W229 (Or.inr (slot_ne (Or.inl (hw _ (List.mem_of_getElem? (i := 56) rfl))) (Or.inl (hw _ (List.mem_of_getElem? (i := 54) rfl))) (by decide) (t := .int) (t' := .int) (by decide) (by decide))))
          have F231 : Exa Z h229 a1 "com/example/profitmine/profitmine/io/Fields" := (H1.wr W229)
          obtain ⟨T232, h232, X232, e232, W232, st232⟩ := putF X229 hx hZ hown (host := "") (Or.inl (hw _ (List.mem_of_getElem? (i := 55) rfl))) Via.refl e229 F230 F231 (Or.inl (hw _ (List.mem_of_getElem? (i := 56) rfl))) (hw _ (List.mem_of_getElem? (i := 35) rfl)) (ty := .int) (by decide) rfl rfl (g := (mkF m 84 #[.val (.ref a1), .val (.int (2 : Int32)), .val (.int (1 : Int32))] [(.int (2 : Int32)), (.ref a1)])) rfl rfl (hb hby d10_84)
          refine own_go st232 ?_
          have G232 : Fld Z h232 a1 "com/example/profitmine/profitmine/io/Fields" "end" "I" (.int (2 : Int32)) := F230.same W232
          have N232 := Fr.snoc X232 N229 H15
          refine own_go (fun t k => XS.aloadN X232.here hx rfl (hb hby d10_87) rfl rfl  k) ?_
          show own_Run p e below Φ (T232.setTop (mkF m 88 #[.val (.ref a1), .val (.int (2 : Int32)), .val (.int (1 : Int32))] [(.ref a1)]))
          obtain ⟨T233, X233, e233, st233⟩ := getF X232 hx hZ hown (host := "") (Or.inl (hw _ (List.mem_of_getElem? (i := 55) rfl))) Via.refl e232 G232 (g := (mkF m 88 #[.val (.ref a1), .val (.int (2 : Int32)), .val (.int (1 : Int32))] [(.ref a1)])) rfl rfl (hb hby d10_88)
          refine own_go st233 ?_
          refine own_go (fun t k => XS.aloadN X233.here hx rfl (hb hby d10_91) rfl rfl  k) ?_
          have F234 : Fld Z h232 a1 "com/example/profitmine/profitmine/io/Fields" "line" "Ljava/lang/String;" (.ref sx) := ((H2.other W229 (Or.inr (slot_ne (Or.inl (hw _ (List.mem_of_getElem? (i := 45) rfl))) (Or.inl (hw _ (List.mem_of_getElem? (i := 54) rfl))) (by decide) (t := (.object "java/lang/String")) (t' := .int) (by decide) (by decide)))).other W232 (Or.inr (slot_ne (Or.inl (hw _ (List.mem_of_getElem? (i := 45) rfl))) (Or.inl (hw _ (List.mem_of_getElem? (i := 56) rfl))) (by decide) (t := (.object "java/lang/String")) (t' := .int) (by decide) (by decide))))
          obtain ⟨T235, X235, e235, st235⟩ := getF X233 hx hZ hown (host := "") (Or.inl (hw _ (List.mem_of_getElem? (i := 44) rfl))) Via.refl e233 F234 (g := (mkF m 92 #[.val (.ref a1), .val (.int (2 : Int32)), .val (.int (1 : Int32))] [(.ref a1), (.int (2 : Int32))])) rfl rfl (hb hby d10_92)
          refine own_go st235 ?_
          have F236 : Old Z n0 h232 := ((H6.wr W229 H15).wr W232 H15)
          have F237 : Exa Z h232 sx "java/lang/String" := ((H11.wr W229).wr W232)
          have F238 : Fld Z h232 sx "java/lang/String" "value" "[B" (.ref tx) := ((H12.other W229 (Or.inl H16)).other W232 (Or.inl H16))
          have F239 : Fld Z h232 sx "java/lang/String" "coder" "B" (.int (0 : Int32)) := ((H13.other W229 (Or.inl H16)).other W232 (Or.inl H16))
          have F240 : Arv Z h232 tx kx .byte (3 : Int32) [(.int (y0.toInt8.toInt32)), (.int (y1.toInt8.toInt32)), (.int (y2.toInt8.toInt32))] (.int 0) := ((H14.other W229 H17).other W232 H17)
          refine own_callV X235 hx hZ (y := (⟨"java/lang/String", "length", "()I"⟩ : MethodName)) (z := (⟨"java/lang/String", "length", "()I"⟩ : MethodName)) (W := 1) (a := sx) (argsL := []) (rest := [(.int (2 : Int32))]) hown (hw _ (List.mem_of_getElem? (i := 62) rfl)) (hw _ (List.mem_of_getElem? (i := 63) rfl)) (notFace_of_selects (args := #[]) (mvT hZ (hw _ (List.mem_of_getElem? (i := 65) rfl)))) (hw _ (List.mem_of_getElem? (i := 65) rfl)) (hw _ (List.mem_of_getElem? (i := 64) rfl)) (by decide) (own_bk (rm_le l Z a0 hw sx g1 tx kx _ _ _ h232 n0 F236 H7 hg5 F237 F238 F239 F240) hZ (hw _ (List.mem_of_getElem? (i := 66) rfl)) (hw _ (List.mem_of_getElem? (i := 7) rfl)) (by decide) (by decide)) e235 F237 (g := (mkF m 95 #[.val (.ref a1), .val (.int (2 : Int32)), .val (.int (1 : Int32))] [(.ref sx), (.int (2 : Int32))])) rfl (by rw [hml]; rfl) (lenOf pd_9 rfl) rfl (by show 2 * 0 + _ ≤ _; exact Nat.le_of_eq rfl) (hb hby d10_95) (by decide) (by decide) (fun v241 T241 h241 L241 X241 e241 q241 => ?_)
          obtain ⟨rfl, M241, s241⟩ := q241
          replace e241 : T241.heap = h232 := e241.trans s241
          have N241 := Fr.app N232 M241
          refine own_go (fun t k => XS.icmpNo X241.here hx rfl (hb hby d10_98) rfl (tlt (by decide : (2 : Int32) < (3 : Int32))).2.1 k) ?_
          refine own_go (fun t k => XS.aloadN X241.here hx rfl (hb hby d10_101) rfl rfl  k) ?_
          obtain ⟨T242, X242, e242, st242⟩ := getF X241 hx hZ hown (host := "") (Or.inl (hw _ (List.mem_of_getElem? (i := 44) rfl))) Via.refl e241 F234 (g := (mkF m 102 #[.val (.ref a1), .val (.int (2 : Int32)), .val (.int (1 : Int32))] [(.ref a1)])) rfl rfl (hb hby d10_102)
          refine own_go st242 ?_
          refine own_go (fun t k => XS.aloadN X242.here hx rfl (hb hby d10_105) rfl rfl  k) ?_
          obtain ⟨T243, X243, e243, st243⟩ := getF X242 hx hZ hown (host := "") (Or.inl (hw _ (List.mem_of_getElem? (i := 55) rfl))) Via.refl e242 G232 (g := (mkF m 106 #[.val (.ref a1), .val (.int (2 : Int32)), .val (.int (1 : Int32))] [(.ref a1), (.ref sx)])) rfl rfl (hb hby d10_106)
          refine own_go st243 ?_
          show own_Run p e below Φ (T243.setTop (mkF m 109 #[.val (.ref a1), .val (.int (2 : Int32)), .val (.int (1 : Int32))] [(.int (2 : Int32)), (.ref sx)]))
          refine own_callV X243 hx hZ (y := (⟨"java/lang/String", "charAt", "(I)C"⟩ : MethodName)) (z := (⟨"java/lang/String", "charAt", "(I)C"⟩ : MethodName)) (W := 0) (a := sx) (argsL := [(.int (2 : Int32))]) (rest := []) hown (hw _ (List.mem_of_getElem? (i := 72) rfl)) (hw _ (List.mem_of_getElem? (i := 73) rfl)) (notFace_of_selects (args := #[]) (mvT hZ (hw _ (List.mem_of_getElem? (i := 75) rfl)))) (hw _ (List.mem_of_getElem? (i := 75) rfl)) (hw _ (List.mem_of_getElem? (i := 74) rfl)) (by decide) (own_bk (rm_ch2 l Z a0 hw sx g1 g3 tx kx _ _ _ h232 n0 F236 H7 hg5 H9 hr F237 F238 F239 F240 hy.2.2) hZ (hw _ (List.mem_of_getElem? (i := 76) rfl)) (hw _ (List.mem_of_getElem? (i := 7) rfl)) (by decide) (by decide)) e243 F237 (g := (mkF m 109 #[.val (.ref a1), .val (.int (2 : Int32)), .val (.int (1 : Int32))] [(.int (2 : Int32)), (.ref sx)])) rfl (by rw [hml]; rfl) (lenOf pd_0 rfl) rfl (by show 2 * 0 + _ ≤ _; exact Nat.le_of_eq rfl) (hb hby d10_109) (by decide) (by decide) (fun v244 T244 h244 L244 X244 e244 q244 => ?_)
          obtain ⟨rfl, M244, s244⟩ := q244
          replace e244 : T244.heap = h232 := e244.trans s244
          have N244 := Fr.app N241 M244
          refine own_callS X244 hx hZ (y := (⟨"com/example/profitmine/profitmine/io/Fields", "isBlank", "(C)Z"⟩ : MethodName)) (W := 0) (argsL := [(.int y2)]) (rest := []) hown (hw _ (List.mem_of_getElem? (i := 94) rfl)) (hw _ (List.mem_of_getElem? (i := 95) rfl)) (hw _ (List.mem_of_getElem? (i := 36) rfl)) (hw _ (List.mem_of_getElem? (i := 96) rfl)) (by decide) (own_bk (rm_ib l Z a0 hw y2 h232 n0 ) hZ (hw _ (List.mem_of_getElem? (i := 96) rfl)) (hw _ (List.mem_of_getElem? (i := 36) rfl)) (by decide) (by decide)) e244 (g := (mkF m 112 #[.val (.ref a1), .val (.int (2 : Int32)), .val (.int (1 : Int32))] [(.int y2)])) rfl (by rw [hml]; rfl) (lenOf pd_14 rfl) rfl (by show 2 * 0 + _ ≤ _; exact Nat.le_of_eq rfl) (hb hby d10_112) (by decide) (by decide) (fun v245 T245 h245 L245 X245 e245 q245 => ?_)
          obtain ⟨rfl, M245, s245⟩ := q245
          replace e245 : T245.heap = h232 := e245.trans s245
          have N245 := Fr.app N244 M245
          refine own_go (fun t k => XS.ifNo X245.here hx rfl (hb hby d10_115) rfl ((if0 _ _).trans (teq hc27_3).2) k) ?_
          refine own_go (fun t k => XS.aloadN X245.here hx rfl (hb hby d10_118) rfl rfl  k) ?_
          refine own_go (fun t k => XS.dup X245.here hx rfl (hb hby d10_119) rfl rfl k) ?_
          obtain ⟨T246, X246, e246, st246⟩ := getF X245 hx hZ hown (host := "") (Or.inl (hw _ (List.mem_of_getElem? (i := 55) rfl))) Via.refl e245 G232 (g := (mkF m 120 #[.val (.ref a1), .val (.int (2 : Int32)), .val (.int (1 : Int32))] [(.ref a1), (.ref a1)])) rfl rfl (hb hby d10_120)
          refine own_go st246 ?_
          refine own_go (fun t k => XS.iconst X246.here hx rfl (hb hby d10_123) k) ?_
          refine own_go (fun t k => XS.iadd X246.here hx rfl (hb hby d10_124) rfl k) ?_
          show own_Run p e below Φ (T246.setTop (mkF m 125 #[.val (.ref a1), .val (.int (2 : Int32)), .val (.int (1 : Int32))] [(.int ((2 : Int32) + (1 : Int32))), (.ref a1)]))
          rw [show ((2 : Int32) + (1 : Int32)) = (3 : Int32) from by decide]
          show own_Run p e below Φ (T246.setTop (mkF m 125 #[.val (.ref a1), .val (.int (2 : Int32)), .val (.int (1 : Int32))] [(.int (3 : Int32)), (.ref a1)]))
          have F247 : Exa Z h232 a1 "com/example/profitmine/profitmine/io/Fields" := (F231.wr W232)
          obtain ⟨T248, h248, X248, e248, W248, st248⟩ := putF X246 hx hZ hown (host := "") (Or.inl (hw _ (List.mem_of_getElem? (i := 55) rfl))) Via.refl e246 G232 F247 (Or.inl (hw _ (List.mem_of_getElem? (i := 56) rfl))) (hw _ (List.mem_of_getElem? (i := 35) rfl)) (ty := .int) (by decide) rfl rfl (g := (mkF m 125 #[.val (.ref a1), .val (.int (2 : Int32)), .val (.int (1 : Int32))] [(.int (3 : Int32)), (.ref a1)])) rfl rfl (hb hby d10_125)
          refine own_go st248 ?_
          have G248 : Fld Z h248 a1 "com/example/profitmine/profitmine/io/Fields" "end" "I" (.int (3 : Int32)) := G232.same W248
          have N248 := Fr.snoc X248 N245 H15
          refine own_go (fun t k => XS.goto X248.here hx rfl (pc0 := 128) (pc' := 87) rfl (hb hby d10_128) (by decide) (by decide) k) ?_
          refine own_go (fun t k => XS.aloadN X248.here hx rfl (hb hby d10_87) rfl rfl  k) ?_
          obtain ⟨T249, X249, e249, st249⟩ := getF X248 hx hZ hown (host := "") (Or.inl (hw _ (List.mem_of_getElem? (i := 55) rfl))) Via.refl e248 G248 (g := (mkF m 88 #[.val (.ref a1), .val (.int (2 : Int32)), .val (.int (1 : Int32))] [(.ref a1)])) rfl rfl (hb hby d10_88)
          refine own_go st249 ?_
          refine own_go (fun t k => XS.aloadN X249.here hx rfl (hb hby d10_91) rfl rfl  k) ?_
          have F250 : Fld Z h248 a1 "com/example/profitmine/profitmine/io/Fields" "line" "Ljava/lang/String;" (.ref sx) := (F234.other W248 (Or.inr (slot_ne (Or.inl (hw _ (List.mem_of_getElem? (i := 45) rfl))) (Or.inl (hw _ (List.mem_of_getElem? (i := 56) rfl))) (by decide) (t := (.object "java/lang/String")) (t' := .int) (by decide) (by decide))))
          obtain ⟨T251, X251, e251, st251⟩ := getF X249 hx hZ hown (host := "") (Or.inl (hw _ (List.mem_of_getElem? (i := 44) rfl))) Via.refl e249 F250 (g := (mkF m 92 #[.val (.ref a1), .val (.int (2 : Int32)), .val (.int (1 : Int32))] [(.ref a1), (.int (3 : Int32))])) rfl rfl (hb hby d10_92)
          refine own_go st251 ?_
          have F252 : Old Z n0 h248 := (F236.wr W248 H15)
          have F253 : Exa Z h248 sx "java/lang/String" := (F237.wr W248)
          have F254 : Fld Z h248 sx "java/lang/String" "value" "[B" (.ref tx) := (F238.other W248 (Or.inl H16))
          have F255 : Fld Z h248 sx "java/lang/String" "coder" "B" (.int (0 : Int32)) := (F239.other W248 (Or.inl H16))
          have F256 : Arv Z h248 tx kx .byte (3 : Int32) [(.int (y0.toInt8.toInt32)), (.int (y1.toInt8.toInt32)), (.int (y2.toInt8.toInt32))] (.int 0) := (F240.other W248 H17)
          refine own_callV X251 hx hZ (y := (⟨"java/lang/String", "length", "()I"⟩ : MethodName)) (z := (⟨"java/lang/String", "length", "()I"⟩ : MethodName)) (W := 1) (a := sx) (argsL := []) (rest := [(.int (3 : Int32))]) hown (hw _ (List.mem_of_getElem? (i := 62) rfl)) (hw _ (List.mem_of_getElem? (i := 63) rfl)) (notFace_of_selects (args := #[]) (mvT hZ (hw _ (List.mem_of_getElem? (i := 65) rfl)))) (hw _ (List.mem_of_getElem? (i := 65) rfl)) (hw _ (List.mem_of_getElem? (i := 64) rfl)) (by decide) (own_bk (rm_le l Z a0 hw sx g1 tx kx _ _ _ h248 n0 F252 H7 hg5 F253 F254 F255 F256) hZ (hw _ (List.mem_of_getElem? (i := 66) rfl)) (hw _ (List.mem_of_getElem? (i := 7) rfl)) (by decide) (by decide)) e251 F253 (g := (mkF m 95 #[.val (.ref a1), .val (.int (2 : Int32)), .val (.int (1 : Int32))] [(.ref sx), (.int (3 : Int32))])) rfl (by rw [hml]; rfl) (lenOf pd_9 rfl) rfl (by show 2 * 0 + _ ≤ _; exact Nat.le_of_eq rfl) (hb hby d10_95) (by decide) (by decide) (fun v257 T257 h257 L257 X257 e257 q257 => ?_)
          obtain ⟨rfl, M257, s257⟩ := q257
          replace e257 : T257.heap = h248 := e257.trans s257
          have N257 := Fr.app N248 M257
          refine own_go (fun t k => XS.icmpYes X257.here hx rfl (pc0 := 98) (pc' := 131) rfl (hb hby d10_98) rfl (flt (by decide : ¬ ((3 : Int32) < (3 : Int32)))).2.1 (by decide) (by decide) k) ?_
          refine own_go (fun t k => XS.aloadN X257.here hx rfl (hb hby d10_131) rfl rfl  k) ?_
          show own_Run p e below Φ (T257.setTop (mkF m 132 #[.val (.ref a1), .val (.int (2 : Int32)), .val (.int (1 : Int32))] [(.ref a1)]))
          refine own_go (fun t k => XS.dup X257.here hx rfl (hb hby d10_132) rfl rfl k) ?_
          have F258 : Fld Z h248 a1 "com/example/profitmine/profitmine/io/Fields" "count" "I" (.int (0 : Int32)) := (((H5.other W229 (Or.inr (slot_ne (Or.inl (hw _ (List.mem_of_getElem? (i := 52) rfl))) (Or.inl (hw _ (List.mem_of_getElem? (i := 54) rfl))) (by decide) (t := .int) (t' := .int) (by decide) (by decide)))).other W232 (Or.inr (slot_ne (Or.inl (hw _ (List.mem_of_getElem? (i := 52) rfl))) (Or.inl (hw _ (List.mem_of_getElem? (i := 56) rfl))) (by decide) (t := .int) (t' := .int) (by decide) (by decide)))).other W248 (Or.inr (slot_ne (Or.inl (hw _ (List.mem_of_getElem? (i := 52) rfl))) (Or.inl (hw _ (List.mem_of_getElem? (i := 56) rfl))) (by decide) (t := .int) (t' := .int) (by decide) (by decide))))
          obtain ⟨T259, X259, e259, st259⟩ := getF X257 hx hZ hown (host := "") (Or.inl (hw _ (List.mem_of_getElem? (i := 51) rfl))) Via.refl e257 F258 (g := (mkF m 133 #[.val (.ref a1), .val (.int (2 : Int32)), .val (.int (1 : Int32))] [(.ref a1), (.ref a1)])) rfl rfl (hb hby d10_133)
          refine own_go st259 ?_
          refine own_go (fun t k => XS.iconst X259.here hx rfl (hb hby d10_136) k) ?_
          refine own_go (fun t k => XS.iadd X259.here hx rfl (hb hby d10_137) rfl k) ?_
          show own_Run p e below Φ (T259.setTop (mkF m 138 #[.val (.ref a1), .val (.int (2 : Int32)), .val (.int (1 : Int32))] [(.int ((0 : Int32) + (1 : Int32))), (.ref a1)]))
          rw [show ((0 : Int32) + (1 : Int32)) = (1 : Int32) from by decide]
          show own_Run p e below Φ (T259.setTop (mkF m 138 #[.val (.ref a1), .val (.int (2 : Int32)), .val (.int (1 : Int32))] [(.int (1 : Int32)), (.ref a1)]))
          have F260 : Exa Z h248 a1 "com/example/profitmine/profitmine/io/Fields" := (F247.wr W248)
          obtain ⟨T261, h261, X261, e261, W261, st261⟩ := putF X259 hx hZ hown (host := "") (Or.inl (hw _ (List.mem_of_getElem? (i := 51) rfl))) Via.refl e259 F258 F260 (Or.inl (hw _ (List.mem_of_getElem? (i := 52) rfl))) (hw _ (List.mem_of_getElem? (i := 35) rfl)) (ty := .int) (by decide) rfl rfl (g := (mkF m 138 #[.val (.ref a1), .val (.int (2 : Int32)), .val (.int (1 : Int32))] [(.int (1 : Int32)), (.ref a1)])) rfl rfl (hb hby d10_138)
          refine own_go st261 ?_
          have G261 : Fld Z h261 a1 "com/example/profitmine/profitmine/io/Fields" "count" "I" (.int (1 : Int32)) := F258.same W261
          have N261 := Fr.snoc X261 N257 H15
          refine own_go (fun t k => XS.goto X261.here hx rfl (pc0 := 141) (pc' := 166) rfl (hb hby d10_141) (by decide) (by decide) k) ?_
          refine own_go (fun t k => XS.iloadN X261.here hx rfl (hb hby d10_166) rfl  k) ?_
          have F262 : Keep h0 h261 [a1] := ((((K0.wr W229 (Or.inl (List.mem_of_getElem? (i := 0) rfl))).wr W232 (Or.inl (List.mem_of_getElem? (i := 0) rfl))).wr W248 (Or.inl (List.mem_of_getElem? (i := 0) rfl))).wr W261 (Or.inl (List.mem_of_getElem? (i := 0) rfl)))
          have F263 : Fld Z h261 a1 "com/example/profitmine/profitmine/io/Fields" "line" "Ljava/lang/String;" (.ref sx) := (F250.other W261 (Or.inr (slot_ne (Or.inl (hw _ (List.mem_of_getElem? (i := 45) rfl))) (Or.inl (hw _ (List.mem_of_getElem? (i := 52) rfl))) (by decide) (t := (.object "java/lang/String")) (t' := .int) (by decide) (by decide))))
          have F264 : Fld Z h261 a1 "com/example/profitmine/profitmine/io/Fields" "start" "I" (.int (2 : Int32)) := (((G229.other W232 (Or.inr (slot_ne (Or.inl (hw _ (List.mem_of_getElem? (i := 54) rfl))) (Or.inl (hw _ (List.mem_of_getElem? (i := 56) rfl))) (by decide) (t := .int) (t' := .int) (by decide) (by decide)))).other W248 (Or.inr (slot_ne (Or.inl (hw _ (List.mem_of_getElem? (i := 54) rfl))) (Or.inl (hw _ (List.mem_of_getElem? (i := 56) rfl))) (by decide) (t := .int) (t' := .int) (by decide) (by decide)))).other W261 (Or.inr (slot_ne (Or.inl (hw _ (List.mem_of_getElem? (i := 54) rfl))) (Or.inl (hw _ (List.mem_of_getElem? (i := 52) rfl))) (by decide) (t := .int) (t' := .int) (by decide) (by decide))))
          have F265 : Fld Z h261 a1 "com/example/profitmine/profitmine/io/Fields" "end" "I" (.int (3 : Int32)) := (G248.other W261 (Or.inr (slot_ne (Or.inl (hw _ (List.mem_of_getElem? (i := 56) rfl))) (Or.inl (hw _ (List.mem_of_getElem? (i := 52) rfl))) (by decide) (t := .int) (t' := .int) (by decide) (by decide))))
          subst hΦ
          exact own_retN X261 hx (t := .boolean) Bd.returns (by simp) hlk (hb hby d10_167) e261 ⟨(by unfold own_fd; rw [if_neg hc27, if_neg hc27_2, if_pos hc27_3, if_neg hc64]; first | done | rfl), N261, F262, F263, (by unfold own_es; rw [if_neg hc27, if_neg hc27_2, if_pos hc27_3, if_neg hc64]; exact F264), (by unfold own_ee; rw [if_neg hc27, if_neg hc27_2, if_pos hc27_3, if_neg hc64]; exact F265)⟩ (by decide) (by decide)
      · refine own_go (fun t k => XS.ifNo X206.here hx rfl (hb hby d10_27) rfl ((if0 _ _).trans (feq hc27_3).1) k) ?_
        refine own_go (fun t k => XS.iinc X206.here hx rfl (hb hby d10_30) rfl (l' := #[.val (.ref a1), .val (.int ((2 : Int32) + (1 : Int32))), .unset]) rfl k) ?_
        show own_Run p e below Φ (T206.setTop (mkF m 33 #[.val (.ref a1), .val (.int ((2 : Int32) + (1 : Int32))), .unset] []))
        rw [show ((2 : Int32) + (1 : Int32)) = (3 : Int32) from by decide]
        show own_Run p e below Φ (T206.setTop (mkF m 33 #[.val (.ref a1), .val (.int (3 : Int32)), .unset] []))
        refine own_go (fun t k => XS.goto X206.here hx rfl (pc0 := 33) (pc' := 5) rfl (hb hby d10_33) (by decide) (by decide) k) ?_
        refine own_go (fun t k => XS.iloadN X206.here hx rfl (hb hby d10_5) rfl  k) ?_
        refine own_go (fun t k => XS.aloadN X206.here hx rfl (hb hby d10_6) rfl rfl  k) ?_
        obtain ⟨T266, X266, e266, st266⟩ := getF X206 hx hZ hown (host := "") (Or.inl (hw _ (List.mem_of_getElem? (i := 44) rfl))) Via.refl e206 H2 (g := (mkF m 7 #[.val (.ref a1), .val (.int (3 : Int32)), .unset] [(.ref a1), (.int (3 : Int32))])) rfl rfl (hb hby d10_7)
        refine own_go st266 ?_
        refine own_callV X266 hx hZ (y := (⟨"java/lang/String", "length", "()I"⟩ : MethodName)) (z := (⟨"java/lang/String", "length", "()I"⟩ : MethodName)) (W := 1) (a := sx) (argsL := []) (rest := [(.int (3 : Int32))]) hown (hw _ (List.mem_of_getElem? (i := 62) rfl)) (hw _ (List.mem_of_getElem? (i := 63) rfl)) (notFace_of_selects (args := #[]) (mvT hZ (hw _ (List.mem_of_getElem? (i := 65) rfl)))) (hw _ (List.mem_of_getElem? (i := 65) rfl)) (hw _ (List.mem_of_getElem? (i := 64) rfl)) (by decide) (own_bk (rm_le l Z a0 hw sx g1 tx kx _ _ _ h0 n0 H6 H7 hg5 H11 H12 H13 H14) hZ (hw _ (List.mem_of_getElem? (i := 66) rfl)) (hw _ (List.mem_of_getElem? (i := 7) rfl)) (by decide) (by decide)) e266 H11 (g := (mkF m 10 #[.val (.ref a1), .val (.int (3 : Int32)), .unset] [(.ref sx), (.int (3 : Int32))])) rfl (by rw [hml]; rfl) (lenOf pd_9 rfl) rfl (by show 2 * 0 + _ ≤ _; exact Nat.le_of_eq rfl) (hb hby d10_10) (by decide) (by decide) (fun v267 T267 h267 L267 X267 e267 q267 => ?_)
        obtain ⟨rfl, M267, s267⟩ := q267
        replace e267 : T267.heap = h0 := e267.trans s267
        have N267 := Fr.app N206 M267
        refine own_go (fun t k => XS.icmpYes X267.here hx rfl (pc0 := 13) (pc' := 36) rfl (hb hby d10_13) rfl (flt (by decide : ¬ ((3 : Int32) < (3 : Int32)))).2.1 (by decide) (by decide) k) ?_
        refine own_go (fun t k => XS.iloadN X267.here hx rfl (hb hby d10_36) rfl  k) ?_
        refine own_go (fun t k => XS.aloadN X267.here hx rfl (hb hby d10_37) rfl rfl  k) ?_
        obtain ⟨T268, X268, e268, st268⟩ := getF X267 hx hZ hown (host := "") (Or.inl (hw _ (List.mem_of_getElem? (i := 44) rfl))) Via.refl e267 H2 (g := (mkF m 38 #[.val (.ref a1), .val (.int (3 : Int32)), .unset] [(.ref a1), (.int (3 : Int32))])) rfl rfl (hb hby d10_38)
        refine own_go st268 ?_
        show own_Run p e below Φ (T268.setTop (mkF m 41 #[.val (.ref a1), .val (.int (3 : Int32)), .unset] [(.ref sx), (.int (3 : Int32))]))
        refine own_callV X268 hx hZ (y := (⟨"java/lang/String", "length", "()I"⟩ : MethodName)) (z := (⟨"java/lang/String", "length", "()I"⟩ : MethodName)) (W := 1) (a := sx) (argsL := []) (rest := [(.int (3 : Int32))]) hown (hw _ (List.mem_of_getElem? (i := 62) rfl)) (hw _ (List.mem_of_getElem? (i := 63) rfl)) (notFace_of_selects (args := #[]) (mvT hZ (hw _ (List.mem_of_getElem? (i := 65) rfl)))) (hw _ (List.mem_of_getElem? (i := 65) rfl)) (hw _ (List.mem_of_getElem? (i := 64) rfl)) (by decide) (own_bk (rm_le l Z a0 hw sx g1 tx kx _ _ _ h0 n0 H6 H7 hg5 H11 H12 H13 H14) hZ (hw _ (List.mem_of_getElem? (i := 66) rfl)) (hw _ (List.mem_of_getElem? (i := 7) rfl)) (by decide) (by decide)) e268 H11 (g := (mkF m 41 #[.val (.ref a1), .val (.int (3 : Int32)), .unset] [(.ref sx), (.int (3 : Int32))])) rfl (by rw [hml]; rfl) (lenOf pd_9 rfl) rfl (by show 2 * 0 + _ ≤ _; exact Nat.le_of_eq rfl) (hb hby d10_41) (by decide) (by decide) (fun v269 T269 h269 L269 X269 e269 q269 => ?_)
        obtain ⟨rfl, M269, s269⟩ := q269
        replace e269 : T269.heap = h0 := e269.trans s269
        have N269 := Fr.app N267 M269
        refine own_go (fun t k => XS.icmpYes X269.here hx rfl (pc0 := 44) (pc' := 71) rfl (hb hby d10_44) rfl (flt (by decide : ¬ ((3 : Int32) < (3 : Int32)))).2.1 (by decide) (by decide) k) ?_
        refine own_go (fun t k => XS.iconst X269.here hx rfl (hb hby d10_71) k) ?_
        refine own_go (fun t k => XS.istoreN X269.here hx rfl (hb hby d10_72) rfl (l' := #[.val (.ref a1), .val (.int (3 : Int32)), .val (.int (0 : Int32))]) rfl k) ?_
        refine own_go (fun t k => XS.iloadN X269.here hx rfl (hb hby d10_73) rfl  k) ?_
        refine own_go (fun t k => XS.ifYes X269.here hx rfl (pc0 := 74) (pc' := 144) rfl (hb hby d10_74) rfl ((if0 _ _).trans (teq (rfl : (0 : Int32) = (0 : Int32))).1) (by decide) (by decide) k) ?_
        refine own_go (fun t k => XS.aloadN X269.here hx rfl (hb hby d10_144) rfl rfl  k) ?_
        refine own_go (fun t k => XS.aloadN X269.here hx rfl (hb hby d10_145) rfl rfl  k) ?_
        obtain ⟨T270, X270, e270, st270⟩ := getF X269 hx hZ hown (host := "") (Or.inl (hw _ (List.mem_of_getElem? (i := 44) rfl))) Via.refl e269 H2 (g := (mkF m 146 #[.val (.ref a1), .val (.int (3 : Int32)), .val (.int (0 : Int32))] [(.ref a1), (.ref a1)])) rfl rfl (hb hby d10_146)
        refine own_go st270 ?_
        show own_Run p e below Φ (T270.setTop (mkF m 149 #[.val (.ref a1), .val (.int (3 : Int32)), .val (.int (0 : Int32))] [(.ref sx), (.ref a1)]))
        refine own_callV X270 hx hZ (y := (⟨"java/lang/String", "length", "()I"⟩ : MethodName)) (z := (⟨"java/lang/String", "length", "()I"⟩ : MethodName)) (W := 1) (a := sx) (argsL := []) (rest := [(.ref a1)]) hown (hw _ (List.mem_of_getElem? (i := 62) rfl)) (hw _ (List.mem_of_getElem? (i := 63) rfl)) (notFace_of_selects (args := #[]) (mvT hZ (hw _ (List.mem_of_getElem? (i := 65) rfl)))) (hw _ (List.mem_of_getElem? (i := 65) rfl)) (hw _ (List.mem_of_getElem? (i := 64) rfl)) (by decide) (own_bk (rm_le l Z a0 hw sx g1 tx kx _ _ _ h0 n0 H6 H7 hg5 H11 H12 H13 H14) hZ (hw _ (List.mem_of_getElem? (i := 66) rfl)) (hw _ (List.mem_of_getElem? (i := 7) rfl)) (by decide) (by decide)) e270 H11 (g := (mkF m 149 #[.val (.ref a1), .val (.int (3 : Int32)), .val (.int (0 : Int32))] [(.ref sx), (.ref a1)])) rfl (by rw [hml]; rfl) (lenOf pd_9 rfl) rfl (by show 2 * 0 + _ ≤ _; exact Nat.le_of_eq rfl) (hb hby d10_149) (by decide) (by decide) (fun v271 T271 h271 L271 X271 e271 q271 => ?_)
        obtain ⟨rfl, M271, s271⟩ := q271
        replace e271 : T271.heap = h0 := e271.trans s271
        have N271 := Fr.app N269 M271
        obtain ⟨T272, h272, X272, e272, W272, st272⟩ := putF X271 hx hZ hown (host := "") (Or.inl (hw _ (List.mem_of_getElem? (i := 53) rfl))) Via.refl e271 H3 H1 (Or.inl (hw _ (List.mem_of_getElem? (i := 54) rfl))) (hw _ (List.mem_of_getElem? (i := 35) rfl)) (ty := .int) (by decide) rfl rfl (g := (mkF m 152 #[.val (.ref a1), .val (.int (3 : Int32)), .val (.int (0 : Int32))] [(.int (3 : Int32)), (.ref a1)])) rfl rfl (hb hby d10_152)
        refine own_go st272 ?_
        have G272 : Fld Z h272 a1 "com/example/profitmine/profitmine/io/Fields" "start" "I" (.int (3 : Int32)) := H3.same W272
        have N272 := Fr.snoc X272 N271 H15
        refine own_go (fun t k => XS.aloadN X272.here hx rfl (hb hby d10_155) rfl rfl  k) ?_
        refine own_go (fun t k => XS.aloadN X272.here hx rfl (hb hby d10_156) rfl rfl  k) ?_
        have F273 : Fld Z h272 a1 "com/example/profitmine/profitmine/io/Fields" "line" "Ljava/lang/String;" (.ref sx) := (H2.other W272 (Or.inr (slot_ne (Or.inl (hw _ (List.mem_of_getElem? (i := 45) rfl))) (Or.inl (hw _ (List.mem_of_getElem? (i := 54) rfl))) (by decide) (t := (.object "java/lang/String")) (t' := .int) (by decide) (by decide))))
        obtain ⟨T274, X274, e274, st274⟩ := getF X272 hx hZ hown (host := "") (Or.inl (hw _ (List.mem_of_getElem? (i := 44) rfl))) Via.refl e272 F273 (g := (mkF m 157 #[.val (.ref a1), .val (.int (3 : Int32)), .val (.int (0 : Int32))] [(.ref a1), (.ref a1)])) rfl rfl (hb hby d10_157)
        refine own_go st274 ?_
        have F275 : Old Z n0 h272 := (H6.wr W272 H15)
        have F276 : Exa Z h272 sx "java/lang/String" := (H11.wr W272)
        have F277 : Fld Z h272 sx "java/lang/String" "value" "[B" (.ref tx) := (H12.other W272 (Or.inl H16))
        have F278 : Fld Z h272 sx "java/lang/String" "coder" "B" (.int (0 : Int32)) := (H13.other W272 (Or.inl H16))
        have F279 : Arv Z h272 tx kx .byte (3 : Int32) [(.int (y0.toInt8.toInt32)), (.int (y1.toInt8.toInt32)), (.int (y2.toInt8.toInt32))] (.int 0) := (H14.other W272 H17)
        refine own_callV X274 hx hZ (y := (⟨"java/lang/String", "length", "()I"⟩ : MethodName)) (z := (⟨"java/lang/String", "length", "()I"⟩ : MethodName)) (W := 1) (a := sx) (argsL := []) (rest := [(.ref a1)]) hown (hw _ (List.mem_of_getElem? (i := 62) rfl)) (hw _ (List.mem_of_getElem? (i := 63) rfl)) (notFace_of_selects (args := #[]) (mvT hZ (hw _ (List.mem_of_getElem? (i := 65) rfl)))) (hw _ (List.mem_of_getElem? (i := 65) rfl)) (hw _ (List.mem_of_getElem? (i := 64) rfl)) (by decide) (own_bk (rm_le l Z a0 hw sx g1 tx kx _ _ _ h272 n0 F275 H7 hg5 F276 F277 F278 F279) hZ (hw _ (List.mem_of_getElem? (i := 66) rfl)) (hw _ (List.mem_of_getElem? (i := 7) rfl)) (by decide) (by decide)) e274 F276 (g := (mkF m 160 #[.val (.ref a1), .val (.int (3 : Int32)), .val (.int (0 : Int32))] [(.ref sx), (.ref a1)])) rfl (by rw [hml]; rfl) (lenOf pd_9 rfl) rfl (by show 2 * 0 + _ ≤ _; exact Nat.le_of_eq rfl) (hb hby d10_160) (by decide) (by decide) (fun v280 T280 h280 L280 X280 e280 q280 => ?_)
        obtain ⟨rfl, M280, s280⟩ := q280
        replace e280 : T280.heap = h272 := e280.trans s280
        have N280 := Fr.app N272 M280
        have F281 : Fld Z h272 a1 "com/example/profitmine/profitmine/io/Fields" "end" "I" (.int (0 : Int32)) := (H4.other W272 (Or.inr (slot_ne (Or.inl (hw _ (List.mem_of_getElem? (i := 56) rfl))) (Or.inl (hw _ (List.mem_of_getElem? (i := 54) rfl))) (by decide) (t := .int) (t' := .int) (by decide) (by decide))))
        have F282 : Exa Z h272 a1 "com/example/profitmine/profitmine/io/Fields" := (H1.wr W272)
        obtain ⟨T283, h283, X283, e283, W283, st283⟩ := putF X280 hx hZ hown (host := "") (Or.inl (hw _ (List.mem_of_getElem? (i := 55) rfl))) Via.refl e280 F281 F282 (Or.inl (hw _ (List.mem_of_getElem? (i := 56) rfl))) (hw _ (List.mem_of_getElem? (i := 35) rfl)) (ty := .int) (by decide) rfl rfl (g := (mkF m 163 #[.val (.ref a1), .val (.int (3 : Int32)), .val (.int (0 : Int32))] [(.int (3 : Int32)), (.ref a1)])) rfl rfl (hb hby d10_163)
        refine own_go st283 ?_
        have G283 : Fld Z h283 a1 "com/example/profitmine/profitmine/io/Fields" "end" "I" (.int (3 : Int32)) := F281.same W283
        have N283 := Fr.snoc X283 N280 H15
        refine own_go (fun t k => XS.iloadN X283.here hx rfl (hb hby d10_166) rfl  k) ?_
        have F284 : Keep h0 h283 [a1] := ((K0.wr W272 (Or.inl (List.mem_of_getElem? (i := 0) rfl))).wr W283 (Or.inl (List.mem_of_getElem? (i := 0) rfl)))
        have F285 : Fld Z h283 a1 "com/example/profitmine/profitmine/io/Fields" "line" "Ljava/lang/String;" (.ref sx) := (F273.other W283 (Or.inr (slot_ne (Or.inl (hw _ (List.mem_of_getElem? (i := 45) rfl))) (Or.inl (hw _ (List.mem_of_getElem? (i := 56) rfl))) (by decide) (t := (.object "java/lang/String")) (t' := .int) (by decide) (by decide))))
        have F286 : Fld Z h283 a1 "com/example/profitmine/profitmine/io/Fields" "start" "I" (.int (3 : Int32)) := (G272.other W283 (Or.inr (slot_ne (Or.inl (hw _ (List.mem_of_getElem? (i := 54) rfl))) (Or.inl (hw _ (List.mem_of_getElem? (i := 56) rfl))) (by decide) (t := .int) (t' := .int) (by decide) (by decide))))
        subst hΦ
        exact own_retN X283 hx (t := .boolean) Bd.returns (by simp) hlk (hb hby d10_167) e283 ⟨(by unfold own_fd; rw [if_neg hc27, if_neg hc27_2, if_neg hc27_3]; first | done | rfl), N283, F284, F285, (by unfold own_es; rw [if_neg hc27, if_neg hc27_2, if_neg hc27_3]; exact F286), (by unfold own_ee; rw [if_neg hc27, if_neg hc27_2, if_neg hc27_3]; exact G283)⟩ (by decide) (by decide)
theorem d19_0 : decode prog_26_method_4_code 0 = .ok (.aload_n 0, 1) := by decide +kernel
theorem d19_1 : decode prog_26_method_4_code 1 = .ok (.getfield 11, 3) := by decide +kernel
theorem d19_4 : decode prog_26_method_4_code 4 = .ok (.areturn, 1) := by decide +kernel
theorem ef_19_R (m : MethodId) (x0 : Addr) : entryFrame m #[(.ref x0)] 1 = mkF m 0 #[.val (.ref x0)] [] := by first | (simp [entryFrame, mkF, argsToLocals, Value.category]; done) | rfl
set_option maxRecDepth 65536 in
set_option maxHeartbeats 40000000 in
theorem rm_gline (l : Launch) (Z : State) (a0 : Array Value) (hw : ∀ d ∈ tables_1, d.before a0 Z = true) (a1 : Addr) (w1 : Addr) (h0 : Heap) (n0 : Nat) (H1 : Fld Z h0 a1 "com/example/profitmine/profitmine/io/Fields" "line" "Ljava/lang/String;" (.ref w1)) :
    own_Met l Z (⟨"com/example/profitmine/profitmine/io/Fields", "line", "()Ljava/lang/String;"⟩ : MethodName) prog_26_method_4_code 1 (some (.object "java/lang/String")) ({ frames := 0, cells := 0, slots := 0, locals := 0 } : Room) #[(.ref a1)] h0 (fun v h L => v = some (.ref w1) ∧ Fr n0 L ∧ h = h0) := by
  intro ws
  refine MetFree.of_bodySF (plainFor_of_name pn_c4) hisR ?_
  intro p e s m args below meth c s₁ Bd hml0 hP hK
  obtain ⟨rfl, hZ, hh⟩ := hP
  have hx := Bd.exec
  have hby := Bd.bytes
  have hml : c.maxLocals = 1 := hml0
  have hown : s.vm.findClass "com/example/profitmine/profitmine/io/Fields" = some m.cls := findClass_of_methodNamed Bd.named
  have hnm := (name_of_methodNamed Bd.named Bd.method).1
  have hlk : meth.locks = false := Bd.notSynchronized
  have X0 : Stand p l e ({ frames := 0, cells := 0, slots := 0, locals := 0 } : Room) s m #[(.ref a1)] below meth c s₁ [] 0 0 := Stand.of_body Bd
  have e0 : s₁.heap = h0 := by rw [← hh, Bd.state]; rfl
  have N0 := Fr.nil n0
  refine own_body (Q := fun v h L => v = some (.ref w1) ∧ Fr n0 L ∧ h = h0) ?_
  generalize hΦ : own_Fin s below _ _ _ = Φ
  refine own_cast (ef_19_R m a1) ?_
  show own_Run p e below Φ (s₁.setTop (mkF m 0 #[.val (.ref a1)] []))
  refine own_go (fun t k => XS.aloadN X0.here hx rfl (hb hby d19_0) rfl rfl  k) ?_
  obtain ⟨T1, X1, e1, st1⟩ := getF X0 hx hZ hown (host := "") (Or.inl (hw _ (List.mem_of_getElem? (i := 44) rfl))) Via.refl e0 H1 (g := (mkF m 1 #[.val (.ref a1)] [(.ref a1)])) rfl rfl (hb hby d19_1)
  refine own_go st1 ?_
  subst hΦ
  exact own_retO X1 hx (t := (.object "java/lang/String")) Bd.returns rfl (Or.inr (Or.inr (Or.inr (Or.inr ⟨rfl, rfl, rfl⟩)))) hlk (hb hby d19_4) e1 ⟨rfl, N0, rfl⟩ (by decide) (by decide)
theorem d20_0 : decode prog_26_method_5_code 0 = .ok (.aload_n 0, 1) := by decide +kernel
theorem d20_1 : decode prog_26_method_5_code 1 = .ok (.getfield 21, 3) := by decide +kernel
theorem d20_4 : decode prog_26_method_5_code 4 = .ok (.ireturn, 1) := by decide +kernel
theorem ef_20_R (m : MethodId) (x0 : Addr) : entryFrame m #[(.ref x0)] 1 = mkF m 0 #[.val (.ref x0)] [] := by first | (simp [entryFrame, mkF, argsToLocals, Value.category]; done) | rfl
set_option maxRecDepth 65536 in
set_option maxHeartbeats 40000000 in
theorem rm_gstart (l : Launch) (Z : State) (a0 : Array Value) (hw : ∀ d ∈ tables_1, d.before a0 Z = true) (a1 : Addr) (w1 : Int32) (h0 : Heap) (n0 : Nat) (H1 : Fld Z h0 a1 "com/example/profitmine/profitmine/io/Fields" "start" "I" (.int w1)) :
    own_Met l Z (⟨"com/example/profitmine/profitmine/io/Fields", "start", "()I"⟩ : MethodName) prog_26_method_5_code 1 (some .int) ({ frames := 0, cells := 0, slots := 0, locals := 0 } : Room) #[(.ref a1)] h0 (fun v h L => v = some (.int w1) ∧ Fr n0 L ∧ h = h0) := by
  intro ws
  refine MetFree.of_bodySF (plainFor_of_name pn_c4) hisR ?_
  intro p e s m args below meth c s₁ Bd hml0 hP hK
  obtain ⟨rfl, hZ, hh⟩ := hP
  have hx := Bd.exec
  have hby := Bd.bytes
  have hml : c.maxLocals = 1 := hml0
  have hown : s.vm.findClass "com/example/profitmine/profitmine/io/Fields" = some m.cls := findClass_of_methodNamed Bd.named
  have hnm := (name_of_methodNamed Bd.named Bd.method).1
  have hlk : meth.locks = false := Bd.notSynchronized
  have X0 : Stand p l e ({ frames := 0, cells := 0, slots := 0, locals := 0 } : Room) s m #[(.ref a1)] below meth c s₁ [] 0 0 := Stand.of_body Bd
  have e0 : s₁.heap = h0 := by rw [← hh, Bd.state]; rfl
  have N0 := Fr.nil n0
  refine own_body (Q := fun v h L => v = some (.int w1) ∧ Fr n0 L ∧ h = h0) ?_
  generalize hΦ : own_Fin s below _ _ _ = Φ
  refine own_cast (ef_20_R m a1) ?_
  show own_Run p e below Φ (s₁.setTop (mkF m 0 #[.val (.ref a1)] []))
  refine own_go (fun t k => XS.aloadN X0.here hx rfl (hb hby d20_0) rfl rfl  k) ?_
  obtain ⟨T1, X1, e1, st1⟩ := getF X0 hx hZ hown (host := "") (Or.inl (hw _ (List.mem_of_getElem? (i := 53) rfl))) Via.refl e0 H1 (g := (mkF m 1 #[.val (.ref a1)] [(.ref a1)])) rfl rfl (hb hby d20_1)
  refine own_go st1 ?_
  subst hΦ
  exact own_retI X1 hx Bd.returns hlk (hb hby d20_4) e1 ⟨rfl, N0, rfl⟩ (by decide) (by decide)
theorem d21_0 : decode prog_26_method_6_code 0 = .ok (.aload_n 0, 1) := by decide +kernel
theorem d21_1 : decode prog_26_method_6_code 1 = .ok (.getfield 24, 3) := by decide +kernel
theorem d21_4 : decode prog_26_method_6_code 4 = .ok (.ireturn, 1) := by decide +kernel
theorem ef_21_R (m : MethodId) (x0 : Addr) : entryFrame m #[(.ref x0)] 1 = mkF m 0 #[.val (.ref x0)] [] := by first | (simp [entryFrame, mkF, argsToLocals, Value.category]; done) | rfl
set_option maxRecDepth 65536 in
set_option maxHeartbeats 40000000 in
theorem rm_gend (l : Launch) (Z : State) (a0 : Array Value) (hw : ∀ d ∈ tables_1, d.before a0 Z = true) (a1 : Addr) (w1 : Int32) (h0 : Heap) (n0 : Nat) (H1 : Fld Z h0 a1 "com/example/profitmine/profitmine/io/Fields" "end" "I" (.int w1)) :
    own_Met l Z (⟨"com/example/profitmine/profitmine/io/Fields", "end", "()I"⟩ : MethodName) prog_26_method_6_code 1 (some .int) ({ frames := 0, cells := 0, slots := 0, locals := 0 } : Room) #[(.ref a1)] h0 (fun v h L => v = some (.int w1) ∧ Fr n0 L ∧ h = h0) := by
  intro ws
  refine MetFree.of_bodySF (plainFor_of_name pn_c4) hisR ?_
  intro p e s m args below meth c s₁ Bd hml0 hP hK
  obtain ⟨rfl, hZ, hh⟩ := hP
  have hx := Bd.exec
  have hby := Bd.bytes
  have hml : c.maxLocals = 1 := hml0
  have hown : s.vm.findClass "com/example/profitmine/profitmine/io/Fields" = some m.cls := findClass_of_methodNamed Bd.named
  have hnm := (name_of_methodNamed Bd.named Bd.method).1
  have hlk : meth.locks = false := Bd.notSynchronized
  have X0 : Stand p l e ({ frames := 0, cells := 0, slots := 0, locals := 0 } : Room) s m #[(.ref a1)] below meth c s₁ [] 0 0 := Stand.of_body Bd
  have e0 : s₁.heap = h0 := by rw [← hh, Bd.state]; rfl
  have N0 := Fr.nil n0
  refine own_body (Q := fun v h L => v = some (.int w1) ∧ Fr n0 L ∧ h = h0) ?_
  generalize hΦ : own_Fin s below _ _ _ = Φ
  refine own_cast (ef_21_R m a1) ?_
  show own_Run p e below Φ (s₁.setTop (mkF m 0 #[.val (.ref a1)] []))
  refine own_go (fun t k => XS.aloadN X0.here hx rfl (hb hby d21_0) rfl rfl  k) ?_
  obtain ⟨T1, X1, e1, st1⟩ := getF X0 hx hZ hown (host := "") (Or.inl (hw _ (List.mem_of_getElem? (i := 55) rfl))) Via.refl e0 H1 (g := (mkF m 1 #[.val (.ref a1)] [(.ref a1)])) rfl rfl (hb hby d21_1)
  refine own_go st1 ?_
  subst hΦ
  exact own_retI X1 hx Bd.returns hlk (hb hby d21_4) e1 ⟨rfl, N0, rfl⟩ (by decide) (by decide)
theorem pd_1 : parseMethodDescriptor "([C)V" = some ⟨[(.array .char)], none⟩ := by decide +kernel
theorem pd_3 : parseMethodDescriptor "()V" = some ⟨[], none⟩ := by decide +kernel
theorem pd_7 : parseMethodDescriptor "(Ljava/lang/String;)V" = some ⟨[(.object "java/lang/String")], none⟩ := by decide +kernel
theorem pd_15 : parseMethodDescriptor "()Ljava/lang/String;" = some ⟨[], some (.object "java/lang/String")⟩ := by decide +kernel
theorem ef_0_IIIII (m : MethodId) (x0 : Int32) (x1 : Int32) (x2 : Int32) (x3 : Int32) (x4 : Int32) : entryFrame m #[(.int x0), (.int x1), (.int x2), (.int x3), (.int x4)] maxLocals = mkF m 0 #[.val (.int x0), .val (.int x1), .val (.int x2), .val (.int x3), .val (.int x4), .unset, .unset, .unset, .unset, .unset, .unset, .unset, .unset, .unset, .unset, .unset, .unset] [] := by first | (simp [entryFrame, mkF, argsToLocals, Value.category, maxLocals]; done) | rfl
set_option maxRecDepth 65536 in
set_option maxHeartbeats 40000000 in
theorem rm_law (l : Launch) (Z : State) (a0 : Array Value) (hw : ∀ d ∈ tables_1, d.before a0 Z = true) (p1 : Int32) (p2 : Int32) (p3 : Int32) (p4 : Int32) (p5 : Int32) (G1 : Int32) (G3 : Value) (h0 : Heap) (n0 : Nat) (Z0 : n0 ≤ h0.size) (O0 : Old Z n0 h0) (S0 : Sta Z Z.heap "java/lang/String" "COMPACT_STRINGS" "Z" (.int G1)) (P5 : ¬ (G1 = (0 : Int32))) (S1 : Sta Z Z.heap "jdk/internal/util/Preconditions" "SIOOBE_FORMATTER" "Ljava/util/function/BiFunction;" G3) (R3 : G3.isRef = true) :
    own_MetW l Z x code maxLocals ret room_1 #[(.int p1), (.int p2), (.int p3), (.int p4), (.int p5)] h0 (fun v h L => v = some (.int 1) ∧ Fr n0 L) := by
  intro ws
  refine MetFree.of_bodySF (plainFor_of_name pn_c0) hisR ?_
  intro p e s m args below meth c s₁ Bd hml0 hP hK
  obtain ⟨rfl, hZ, hh⟩ := hP
  have hx := Bd.exec
  have hby := Bd.bytes
  have hml : c.maxLocals = 17 := hml0
  have hown : s.vm.findClass "com/example/profitmine/profitmine/io/FieldsWalkPinLaw" = some m.cls := findClass_of_methodNamed Bd.named
  have hnm := (name_of_methodNamed Bd.named Bd.method).1
  have hlk : meth.locks = false := Bd.notSynchronized
  have X0 : Stand p l e room_1 s m #[(.int p1), (.int p2), (.int p3), (.int p4), (.int p5)] below meth c s₁ [] 0 0 := Stand.of_body Bd
  have e0 : s₁.heap = h0 := by rw [← hh, Bd.state]; rfl
  obtain ⟨vm0, ky0, X0, hZ, hown, hS0, Y0⟩ := own_reb X0 hZ hown e0
  have N0 := Fr.nil n0
  refine own_bodyW (Q := fun v h L => v = some (.int 1) ∧ Fr n0 L) ?_
  generalize hΦ : own_FinW s below _ _ _ = Φ
  refine own_cast (ef_0_IIIII m p1 p2 p3 p4 p5) ?_
  show own_Run p e below Φ (s₁.setTop (mkF m 0 #[.val (.int p1), .val (.int p2), .val (.int p3), .val (.int p4), .val (.int p5), .unset, .unset, .unset, .unset, .unset, .unset, .unset, .unset, .unset, .unset, .unset, .unset] []))
  refine own_go (fun t k => XS.iconst X0.here hx rfl (hb hby at_0) k) ?_
  refine own_newP X0 hx hZ (hw _ (List.mem_of_getElem? (i := 0) rfl)) e0 (g := (mkF m 1 #[.val (.int p1), .val (.int p2), .val (.int p3), .val (.int p4), .val (.int p5), .unset, .unset, .unset, .unset, .unset, .unset, .unset, .unset, .unset, .unset, .unset, .unset] [(.int (3 : Int32))])) rfl (hb hby at_1) rfl (by decide) 3 (by decide) (by decide) (by decide) (by decide) 3 (fun T1 h1 k1 b1 X1 e1 E1 g1 V1 => ?_)
  replace V1 : Arv Z h1 b1 k1 .char (3 : Int32) [(.int (0 : Int32)), (.int (0 : Int32)), (.int (0 : Int32))] (.int (0 : Int32)) := V1
  refine own_go (fun t k => XS.dup X1.here hx rfl (hb hby at_3) rfl rfl k) ?_
  refine own_go (fun t k => XS.iconst X1.here hx rfl (hb hby at_4) k) ?_
  refine own_go (fun t k => XS.iloadN X1.here hx rfl (hb hby at_5) rfl  k) ?_
  refine own_callS X1 hx hZ (y := (⟨"com/example/profitmine/profitmine/io/FieldsWalkPinLaw", "draw", "(I)C"⟩ : MethodName)) (W := 3) (argsL := [(.int p1)]) (rest := [(.int (0 : Int32)), (.ref b1), (.ref b1)]) hown (hw _ (List.mem_of_getElem? (i := 1) rfl)) (hw _ (List.mem_of_getElem? (i := 2) rfl)) (hw _ (List.mem_of_getElem? (i := 3) rfl)) (hw _ (List.mem_of_getElem? (i := 4) rfl)) (by decide) (own_bk (rm_dr l Z a0 hw p1 h1 n0 ) hZ (hw _ (List.mem_of_getElem? (i := 4) rfl)) (hw _ (List.mem_of_getElem? (i := 3) rfl)) (by decide) (by decide)) e1 (g := (mkF m 6 #[.val (.int p1), .val (.int p2), .val (.int p3), .val (.int p4), .val (.int p5), .unset, .unset, .unset, .unset, .unset, .unset, .unset, .unset, .unset, .unset, .unset, .unset] [(.int p1), (.int (0 : Int32)), (.ref b1), (.ref b1)])) rfl (by rw [hml]; rfl) (lenOf pd_0 rfl) rfl (by show 2 * 0 + _ ≤ _; exact Nat.le_of_eq rfl) (hb hby at_6) (by decide) (by decide) (fun v3 T3 h3 L3 X3 e3 q3 => ?_)
  obtain ⟨rfl, M3, s3⟩ := q3
  replace e3 : T3.heap = h1 := e3.trans s3
  have N3 := Fr.app N0 M3
  refine own_castore X3 hx hZ e3 V1 (j := (0 : Int32)) ⟨by decide, by decide⟩ 0 rfl (Nat.le_of_ble_eq_true rfl) (g := (mkF m 9 #[.val (.int p1), .val (.int p2), .val (.int p3), .val (.int p4), .val (.int p5), .unset, .unset, .unset, .unset, .unset, .unset, .unset, .unset, .unset, .unset, .unset, .unset] [(.int (own_dr p1)), (.int (0 : Int32)), (.ref b1), (.ref b1)])) rfl rfl (hb hby at_9) (fun T4 h4 X4 e4 W4 V4 => ?_)
  replace V4 : Arv Z h4 b1 k1 .char (3 : Int32) [(.int (nar .char (own_dr p1))), (.int (0 : Int32)), (.int (0 : Int32))] (.int (0 : Int32)) := V4
  have N4 := Fr.snoc X4 N3 (Nat.le_trans Z0 (Nat.le_of_eq g1.symm))
  refine own_go (fun t k => XS.dup X4.here hx rfl (hb hby at_10) rfl rfl k) ?_
  refine own_go (fun t k => XS.iconst X4.here hx rfl (hb hby at_11) k) ?_
  show own_Run p e below Φ (T4.setTop (mkF m 12 #[.val (.int p1), .val (.int p2), .val (.int p3), .val (.int p4), .val (.int p5), .unset, .unset, .unset, .unset, .unset, .unset, .unset, .unset, .unset, .unset, .unset, .unset] [(.int (1 : Int32)), (.ref b1), (.ref b1)]))
  refine own_go (fun t k => XS.iloadN X4.here hx rfl (hb hby at_12) rfl  k) ?_
  refine own_go (fun t k => XS.bipush X4.here hx rfl (hb hby at_13) k) ?_
  refine own_go (fun t k => XS.iushr X4.here hx rfl (hb hby at_15) rfl k) ?_
  refine own_callS X4 hx hZ (y := (⟨"com/example/profitmine/profitmine/io/FieldsWalkPinLaw", "draw", "(I)C"⟩ : MethodName)) (W := 3) (argsL := [(.int ((p1.toUInt32 >>> ((10 : Int32) &&& 31).toUInt32).toInt32))]) (rest := [(.int (1 : Int32)), (.ref b1), (.ref b1)]) hown (hw _ (List.mem_of_getElem? (i := 1) rfl)) (hw _ (List.mem_of_getElem? (i := 2) rfl)) (hw _ (List.mem_of_getElem? (i := 3) rfl)) (hw _ (List.mem_of_getElem? (i := 4) rfl)) (by decide) (own_bk (rm_dr l Z a0 hw ((p1.toUInt32 >>> ((10 : Int32) &&& 31).toUInt32).toInt32) h4 n0 ) hZ (hw _ (List.mem_of_getElem? (i := 4) rfl)) (hw _ (List.mem_of_getElem? (i := 3) rfl)) (by decide) (by decide)) e4 (g := (mkF m 16 #[.val (.int p1), .val (.int p2), .val (.int p3), .val (.int p4), .val (.int p5), .unset, .unset, .unset, .unset, .unset, .unset, .unset, .unset, .unset, .unset, .unset, .unset] [(.int ((p1.toUInt32 >>> ((10 : Int32) &&& 31).toUInt32).toInt32)), (.int (1 : Int32)), (.ref b1), (.ref b1)])) rfl (by rw [hml]; rfl) (lenOf pd_0 rfl) rfl (by show 2 * 0 + _ ≤ _; exact Nat.le_of_eq rfl) (hb hby at_16) (by decide) (by decide) (fun v5 T5 h5 L5 X5 e5 q5 => ?_)
  obtain ⟨rfl, M5, s5⟩ := q5
  replace e5 : T5.heap = h4 := e5.trans s5
  have N5 := Fr.app N4 M5
  refine own_castore X5 hx hZ e5 V4 (j := (1 : Int32)) ⟨by decide, by decide⟩ 1 rfl (Nat.le_of_ble_eq_true rfl) (g := (mkF m 19 #[.val (.int p1), .val (.int p2), .val (.int p3), .val (.int p4), .val (.int p5), .unset, .unset, .unset, .unset, .unset, .unset, .unset, .unset, .unset, .unset, .unset, .unset] [(.int (own_dr ((p1.toUInt32 >>> ((10 : Int32) &&& 31).toUInt32).toInt32))), (.int (1 : Int32)), (.ref b1), (.ref b1)])) rfl rfl (hb hby at_19) (fun T6 h6 X6 e6 W6 V6 => ?_)
  replace V6 : Arv Z h6 b1 k1 .char (3 : Int32) [(.int (nar .char (own_dr p1))), (.int (nar .char (own_dr ((p1.toUInt32 >>> ((10 : Int32) &&& 31).toUInt32).toInt32)))), (.int (0 : Int32))] (.int (0 : Int32)) := V6
  have N6 := Fr.snoc X6 N5 (Nat.le_trans Z0 (Nat.le_of_eq g1.symm))
  refine own_go (fun t k => XS.dup X6.here hx rfl (hb hby at_20) rfl rfl k) ?_
  refine own_go (fun t k => XS.iconst X6.here hx rfl (hb hby at_21) k) ?_
  refine own_go (fun t k => XS.iloadN X6.here hx rfl (hb hby at_22) rfl  k) ?_
  refine own_go (fun t k => XS.bipush X6.here hx rfl (hb hby at_23) k) ?_
  show own_Run p e below Φ (T6.setTop (mkF m 25 #[.val (.int p1), .val (.int p2), .val (.int p3), .val (.int p4), .val (.int p5), .unset, .unset, .unset, .unset, .unset, .unset, .unset, .unset, .unset, .unset, .unset, .unset] [(.int (20 : Int32)), (.int p1), (.int (2 : Int32)), (.ref b1), (.ref b1)]))
  refine own_go (fun t k => XS.iushr X6.here hx rfl (hb hby at_25) rfl k) ?_
  refine own_callS X6 hx hZ (y := (⟨"com/example/profitmine/profitmine/io/FieldsWalkPinLaw", "draw", "(I)C"⟩ : MethodName)) (W := 3) (argsL := [(.int ((p1.toUInt32 >>> ((20 : Int32) &&& 31).toUInt32).toInt32))]) (rest := [(.int (2 : Int32)), (.ref b1), (.ref b1)]) hown (hw _ (List.mem_of_getElem? (i := 1) rfl)) (hw _ (List.mem_of_getElem? (i := 2) rfl)) (hw _ (List.mem_of_getElem? (i := 3) rfl)) (hw _ (List.mem_of_getElem? (i := 4) rfl)) (by decide) (own_bk (rm_dr l Z a0 hw ((p1.toUInt32 >>> ((20 : Int32) &&& 31).toUInt32).toInt32) h6 n0 ) hZ (hw _ (List.mem_of_getElem? (i := 4) rfl)) (hw _ (List.mem_of_getElem? (i := 3) rfl)) (by decide) (by decide)) e6 (g := (mkF m 26 #[.val (.int p1), .val (.int p2), .val (.int p3), .val (.int p4), .val (.int p5), .unset, .unset, .unset, .unset, .unset, .unset, .unset, .unset, .unset, .unset, .unset, .unset] [(.int ((p1.toUInt32 >>> ((20 : Int32) &&& 31).toUInt32).toInt32)), (.int (2 : Int32)), (.ref b1), (.ref b1)])) rfl (by rw [hml]; rfl) (lenOf pd_0 rfl) rfl (by show 2 * 0 + _ ≤ _; exact Nat.le_of_eq rfl) (hb hby at_26) (by decide) (by decide) (fun v7 T7 h7 L7 X7 e7 q7 => ?_)
  obtain ⟨rfl, M7, s7⟩ := q7
  replace e7 : T7.heap = h6 := e7.trans s7
  have N7 := Fr.app N6 M7
  refine own_castore X7 hx hZ e7 V6 (j := (2 : Int32)) ⟨by decide, by decide⟩ 2 rfl (Nat.le_of_ble_eq_true rfl) (g := (mkF m 29 #[.val (.int p1), .val (.int p2), .val (.int p3), .val (.int p4), .val (.int p5), .unset, .unset, .unset, .unset, .unset, .unset, .unset, .unset, .unset, .unset, .unset, .unset] [(.int (own_dr ((p1.toUInt32 >>> ((20 : Int32) &&& 31).toUInt32).toInt32))), (.int (2 : Int32)), (.ref b1), (.ref b1)])) rfl rfl (hb hby at_29) (fun T8 h8 X8 e8 W8 V8 => ?_)
  replace V8 : Arv Z h8 b1 k1 .char (3 : Int32) [(.int (nar .char (own_dr p1))), (.int (nar .char (own_dr ((p1.toUInt32 >>> ((10 : Int32) &&& 31).toUInt32).toInt32)))), (.int (nar .char (own_dr ((p1.toUInt32 >>> ((20 : Int32) &&& 31).toUInt32).toInt32))))] (.int (0 : Int32)) := V8
  have N8 := Fr.snoc X8 N7 (Nat.le_trans Z0 (Nat.le_of_eq g1.symm))
  show own_Run p e below Φ (T8.setTop (mkF m 30 #[.val (.int p1), .val (.int p2), .val (.int p3), .val (.int p4), .val (.int p5), .unset, .unset, .unset, .unset, .unset, .unset, .unset, .unset, .unset, .unset, .unset, .unset] [(.ref b1)]))
  have hch0 := own_drr p1
  generalize ech0 : nar .char (own_dr p1) = ch0 at hch0 V8
  have hch1 := own_drr ((p1.toUInt32 >>> ((10 : Int32) &&& 31).toUInt32).toInt32)
  generalize ech1 : nar .char (own_dr ((p1.toUInt32 >>> ((10 : Int32) &&& 31).toUInt32).toInt32)) = ch1 at hch1 V8
  have hch2 := own_drr ((p1.toUInt32 >>> ((20 : Int32) &&& 31).toUInt32).toInt32)
  generalize ech2 : nar .char (own_dr ((p1.toUInt32 >>> ((20 : Int32) &&& 31).toUInt32).toInt32)) = ch2 at hch2 V8
  show own_Run p e below Φ (T8.setTop (mkF m 30 #[.val (.int p1), .val (.int p2), .val (.int p3), .val (.int p4), .val (.int p5), .unset, .unset, .unset, .unset, .unset, .unset, .unset, .unset, .unset, .unset, .unset, .unset] [(.ref b1)]))
  refine own_go (fun t k => XS.astore X8.here hx rfl (hb hby at_30) rfl rfl (l' := #[.val (.int p1), .val (.int p2), .val (.int p3), .val (.int p4), .val (.int p5), .val (.ref b1), .unset, .unset, .unset, .unset, .unset, .unset, .unset, .unset, .unset, .unset, .unset]) rfl k) ?_
  refine own_go (fun t k => XS.iconst X8.here hx rfl (hb hby at_32) k) ?_
  have F10 : n0 ≤ h8.size := (Nat.le_trans (Nat.le_trans (Nat.le_trans (Nat.le_trans Z0 E1.1) (Keep.of_wr W4).1) (Keep.of_wr W6).1) (Keep.of_wr W8).1)
  refine own_newP X8 hx hZ (hw _ (List.mem_of_getElem? (i := 0) rfl)) e8 (g := (mkF m 33 #[.val (.int p1), .val (.int p2), .val (.int p3), .val (.int p4), .val (.int p5), .val (.ref b1), .unset, .unset, .unset, .unset, .unset, .unset, .unset, .unset, .unset, .unset, .unset] [(.int (3 : Int32))])) rfl (hb hby at_33) rfl (by decide) 3 (by decide) (by decide) (by decide) (by decide) 3 (fun T9 h9 k9 b9 X9 e9 E9 g9 V9 => ?_)
  have ne_b1_b9 : b1 ≠ b9 := Nat.ne_of_lt (Nat.lt_of_lt_of_le V8.lt (Nat.le_of_eq g9.symm))
  replace V9 : Arv Z h9 b9 k9 .char (3 : Int32) [(.int (0 : Int32)), (.int (0 : Int32)), (.int (0 : Int32))] (.int (0 : Int32)) := V9
  refine own_go (fun t k => XS.dup X9.here hx rfl (hb hby at_35) rfl rfl k) ?_
  refine own_go (fun t k => XS.iconst X9.here hx rfl (hb hby at_36) k) ?_
  refine own_go (fun t k => XS.iloadN X9.here hx rfl (hb hby at_37) rfl  k) ?_
  refine own_callS X9 hx hZ (y := (⟨"com/example/profitmine/profitmine/io/FieldsWalkPinLaw", "draw", "(I)C"⟩ : MethodName)) (W := 3) (argsL := [(.int p3)]) (rest := [(.int (0 : Int32)), (.ref b9), (.ref b9)]) hown (hw _ (List.mem_of_getElem? (i := 1) rfl)) (hw _ (List.mem_of_getElem? (i := 2) rfl)) (hw _ (List.mem_of_getElem? (i := 3) rfl)) (hw _ (List.mem_of_getElem? (i := 4) rfl)) (by decide) (own_bk (rm_dr l Z a0 hw p3 h9 n0 ) hZ (hw _ (List.mem_of_getElem? (i := 4) rfl)) (hw _ (List.mem_of_getElem? (i := 3) rfl)) (by decide) (by decide)) e9 (g := (mkF m 38 #[.val (.int p1), .val (.int p2), .val (.int p3), .val (.int p4), .val (.int p5), .val (.ref b1), .unset, .unset, .unset, .unset, .unset, .unset, .unset, .unset, .unset, .unset, .unset] [(.int p3), (.int (0 : Int32)), (.ref b9), (.ref b9)])) rfl (by rw [hml]; rfl) (lenOf pd_0 rfl) rfl (by show 2 * 0 + _ ≤ _; exact Nat.le_of_eq rfl) (hb hby at_38) (by decide) (by decide) (fun v12 T12 h12 L12 X12 e12 q12 => ?_)
  obtain ⟨rfl, M12, s12⟩ := q12
  replace e12 : T12.heap = h9 := e12.trans s12
  have N12 := Fr.app N8 M12
  refine own_castore X12 hx hZ e12 V9 (j := (0 : Int32)) ⟨by decide, by decide⟩ 0 rfl (Nat.le_of_ble_eq_true rfl) (g := (mkF m 41 #[.val (.int p1), .val (.int p2), .val (.int p3), .val (.int p4), .val (.int p5), .val (.ref b1), .unset, .unset, .unset, .unset, .unset, .unset, .unset, .unset, .unset, .unset, .unset] [(.int (own_dr p3)), (.int (0 : Int32)), (.ref b9), (.ref b9)])) rfl rfl (hb hby at_41) (fun T13 h13 X13 e13 W13 V13 => ?_)
  replace V13 : Arv Z h13 b9 k9 .char (3 : Int32) [(.int (nar .char (own_dr p3))), (.int (0 : Int32)), (.int (0 : Int32))] (.int (0 : Int32)) := V13
  have N13 := Fr.snoc X13 N12 (Nat.le_trans F10 (Nat.le_of_eq g9.symm))
  refine own_go (fun t k => XS.dup X13.here hx rfl (hb hby at_42) rfl rfl k) ?_
  show own_Run p e below Φ (T13.setTop (mkF m 43 #[.val (.int p1), .val (.int p2), .val (.int p3), .val (.int p4), .val (.int p5), .val (.ref b1), .unset, .unset, .unset, .unset, .unset, .unset, .unset, .unset, .unset, .unset, .unset] [(.ref b9), (.ref b9)]))
  refine own_go (fun t k => XS.iconst X13.here hx rfl (hb hby at_43) k) ?_
  refine own_go (fun t k => XS.iloadN X13.here hx rfl (hb hby at_44) rfl  k) ?_
  refine own_callS X13 hx hZ (y := (⟨"com/example/profitmine/profitmine/io/FieldsWalkPinLaw", "draw", "(I)C"⟩ : MethodName)) (W := 3) (argsL := [(.int p4)]) (rest := [(.int (1 : Int32)), (.ref b9), (.ref b9)]) hown (hw _ (List.mem_of_getElem? (i := 1) rfl)) (hw _ (List.mem_of_getElem? (i := 2) rfl)) (hw _ (List.mem_of_getElem? (i := 3) rfl)) (hw _ (List.mem_of_getElem? (i := 4) rfl)) (by decide) (own_bk (rm_dr l Z a0 hw p4 h13 n0 ) hZ (hw _ (List.mem_of_getElem? (i := 4) rfl)) (hw _ (List.mem_of_getElem? (i := 3) rfl)) (by decide) (by decide)) e13 (g := (mkF m 45 #[.val (.int p1), .val (.int p2), .val (.int p3), .val (.int p4), .val (.int p5), .val (.ref b1), .unset, .unset, .unset, .unset, .unset, .unset, .unset, .unset, .unset, .unset, .unset] [(.int p4), (.int (1 : Int32)), (.ref b9), (.ref b9)])) rfl (by rw [hml]; rfl) (lenOf pd_0 rfl) rfl (by show 2 * 0 + _ ≤ _; exact Nat.le_of_eq rfl) (hb hby at_45) (by decide) (by decide) (fun v14 T14 h14 L14 X14 e14 q14 => ?_)
  obtain ⟨rfl, M14, s14⟩ := q14
  replace e14 : T14.heap = h13 := e14.trans s14
  have N14 := Fr.app N13 M14
  refine own_castore X14 hx hZ e14 V13 (j := (1 : Int32)) ⟨by decide, by decide⟩ 1 rfl (Nat.le_of_ble_eq_true rfl) (g := (mkF m 48 #[.val (.int p1), .val (.int p2), .val (.int p3), .val (.int p4), .val (.int p5), .val (.ref b1), .unset, .unset, .unset, .unset, .unset, .unset, .unset, .unset, .unset, .unset, .unset] [(.int (own_dr p4)), (.int (1 : Int32)), (.ref b9), (.ref b9)])) rfl rfl (hb hby at_48) (fun T15 h15 X15 e15 W15 V15 => ?_)
  replace V15 : Arv Z h15 b9 k9 .char (3 : Int32) [(.int (nar .char (own_dr p3))), (.int (nar .char (own_dr p4))), (.int (0 : Int32))] (.int (0 : Int32)) := V15
  have N15 := Fr.snoc X15 N14 (Nat.le_trans F10 (Nat.le_of_eq g9.symm))
  refine own_go (fun t k => XS.dup X15.here hx rfl (hb hby at_49) rfl rfl k) ?_
  refine own_go (fun t k => XS.iconst X15.here hx rfl (hb hby at_50) k) ?_
  refine own_go (fun t k => XS.iload X15.here hx rfl (hb hby at_51) rfl  k) ?_
  refine own_callS X15 hx hZ (y := (⟨"com/example/profitmine/profitmine/io/FieldsWalkPinLaw", "draw", "(I)C"⟩ : MethodName)) (W := 3) (argsL := [(.int p5)]) (rest := [(.int (2 : Int32)), (.ref b9), (.ref b9)]) hown (hw _ (List.mem_of_getElem? (i := 1) rfl)) (hw _ (List.mem_of_getElem? (i := 2) rfl)) (hw _ (List.mem_of_getElem? (i := 3) rfl)) (hw _ (List.mem_of_getElem? (i := 4) rfl)) (by decide) (own_bk (rm_dr l Z a0 hw p5 h15 n0 ) hZ (hw _ (List.mem_of_getElem? (i := 4) rfl)) (hw _ (List.mem_of_getElem? (i := 3) rfl)) (by decide) (by decide)) e15 (g := (mkF m 53 #[.val (.int p1), .val (.int p2), .val (.int p3), .val (.int p4), .val (.int p5), .val (.ref b1), .unset, .unset, .unset, .unset, .unset, .unset, .unset, .unset, .unset, .unset, .unset] [(.int p5), (.int (2 : Int32)), (.ref b9), (.ref b9)])) rfl (by rw [hml]; rfl) (lenOf pd_0 rfl) rfl (by show 2 * 0 + _ ≤ _; exact Nat.le_of_eq rfl) (hb hby at_53) (by decide) (by decide) (fun v16 T16 h16 L16 X16 e16 q16 => ?_)
  obtain ⟨rfl, M16, s16⟩ := q16
  replace e16 : T16.heap = h15 := e16.trans s16
  have N16 := Fr.app N15 M16
  refine own_castore X16 hx hZ e16 V15 (j := (2 : Int32)) ⟨by decide, by decide⟩ 2 rfl (Nat.le_of_ble_eq_true rfl) (g := (mkF m 56 #[.val (.int p1), .val (.int p2), .val (.int p3), .val (.int p4), .val (.int p5), .val (.ref b1), .unset, .unset, .unset, .unset, .unset, .unset, .unset, .unset, .unset, .unset, .unset] [(.int (own_dr p5)), (.int (2 : Int32)), (.ref b9), (.ref b9)])) rfl rfl (hb hby at_56) (fun T17 h17 X17 e17 W17 V17 => ?_)
  replace V17 : Arv Z h17 b9 k9 .char (3 : Int32) [(.int (nar .char (own_dr p3))), (.int (nar .char (own_dr p4))), (.int (nar .char (own_dr p5)))] (.int (0 : Int32)) := V17
  have N17 := Fr.snoc X17 N16 (Nat.le_trans F10 (Nat.le_of_eq g9.symm))
  show own_Run p e below Φ (T17.setTop (mkF m 57 #[.val (.int p1), .val (.int p2), .val (.int p3), .val (.int p4), .val (.int p5), .val (.ref b1), .unset, .unset, .unset, .unset, .unset, .unset, .unset, .unset, .unset, .unset, .unset] [(.ref b9)]))
  have hch3 := own_drr p3
  generalize ech3 : nar .char (own_dr p3) = ch3 at hch3 V17
  have hch4 := own_drr p4
  generalize ech4 : nar .char (own_dr p4) = ch4 at hch4 V17
  have hch5 := own_drr p5
  generalize ech5 : nar .char (own_dr p5) = ch5 at hch5 V17
  show own_Run p e below Φ (T17.setTop (mkF m 57 #[.val (.int p1), .val (.int p2), .val (.int p3), .val (.int p4), .val (.int p5), .val (.ref b1), .unset, .unset, .unset, .unset, .unset, .unset, .unset, .unset, .unset, .unset, .unset] [(.ref b9)]))
  refine own_go (fun t k => XS.astore X17.here hx rfl (hb hby at_57) rfl rfl (l' := #[.val (.int p1), .val (.int p2), .val (.int p3), .val (.int p4), .val (.int p5), .val (.ref b1), .val (.ref b9), .unset, .unset, .unset, .unset, .unset, .unset, .unset, .unset, .unset, .unset]) rfl k) ?_
  have F19 : n0 ≤ h17.size := (Nat.le_trans (Nat.le_trans (Nat.le_trans (Nat.le_trans F10 E9.1) (Keep.of_wr W13).1) (Keep.of_wr W15).1) (Keep.of_wr W17).1)
  have F20 : Arv Z h17 b1 k1 .char (3 : Int32) [(.int ch0), (.int ch1), (.int ch2)] (.int (0 : Int32)) := ((((V8.ext E9).other W13 ne_b1_b9).other W15 ne_b1_b9).other W17 ne_b1_b9)
  obtain ⟨T18, h18, X18, e18, E18, A18, D18, -, st18⟩ := newO X17 hx hZ hown (hw _ (List.mem_of_getElem? (i := 5) rfl)) (hw _ (List.mem_of_getElem? (i := 6) rfl)) (hw _ (List.mem_of_getElem? (i := 7) rfl)) e17 (g := (mkF m 59 #[.val (.int p1), .val (.int p2), .val (.int p3), .val (.int p4), .val (.int p5), .val (.ref b1), .val (.ref b9), .unset, .unset, .unset, .unset, .unset, .unset, .unset, .unset, .unset, .unset] [])) rfl (hb hby at_59) (by decide) (by decide)
  refine own_go st18 ?_
  obtain ⟨b18, g18⟩ : ∃ z, z = h17.size := ⟨_, rfl⟩
  rw [← g18] at A18 D18 ⊢
  have ne_b1_b18 : b1 ≠ b18 := Nat.ne_of_lt (Nat.lt_of_lt_of_le F20.lt (Nat.le_of_eq g18.symm))
  have ne_b9_b18 : b9 ≠ b18 := Nat.ne_of_lt (Nat.lt_of_lt_of_le V17.lt (Nat.le_of_eq g18.symm))
  have G21 : Fld Z h18 b18 "java/lang/String" "coder" "B" (.int (0 : Int32)) := D18 (Or.inr (hw _ (List.mem_of_getElem? (i := 31) rfl))) (ty := .byte) (by decide)
  have G22 : Fld Z h18 b18 "java/lang/String" "value" "[B" .null := D18 (Or.inr (hw _ (List.mem_of_getElem? (i := 33) rfl))) (ty := (.array .byte)) (by decide)
  refine own_go (fun t k => XS.dup X18.here hx rfl (hb hby at_62) rfl rfl k) ?_
  refine own_go (fun t k => XS.aload X18.here hx rfl (hb hby at_63) rfl rfl  k) ?_
  have F23 : Arv Z h18 b1 k1 .char (3 : Int32) [(.int ch0), (.int ch1), (.int ch2)] (.int (0 : Int32)) := (F20.ext E18)
  have F24 : n0 ≤ h18.size := (Nat.le_trans F19 E18.1)
  have F25 : Old Z n0 h18 := (((((((((O0.ext E1).wr W4 (Nat.le_trans Z0 (Nat.le_of_eq g1.symm))).wr W6 (Nat.le_trans Z0 (Nat.le_of_eq g1.symm))).wr W8 (Nat.le_trans Z0 (Nat.le_of_eq g1.symm))).ext E9).wr W13 (Nat.le_trans F10 (Nat.le_of_eq g9.symm))).wr W15 (Nat.le_trans F10 (Nat.le_of_eq g9.symm))).wr W17 (Nat.le_trans F10 (Nat.le_of_eq g9.symm))).ext E18)
  have hws26 : ∀ d ∈ StrChars.Road.words, d.before a0 Z = true := fun d hd => hw d ((by decide +kernel : ∀ d ∈ StrChars.Road.words, d ∈ tables_1) d hd)
  have hp26 : ∀ c ∈ ([ch0, ch1, ch2] : List Int32), ¬ c < 0 ∧ ¬ (255 : Int32) < c := by intro c hc; simp only [List.mem_cons, List.not_mem_nil, or_false] at hc; rcases hc with rfl | rfl | rfl; exact own_rg hch0; exact own_rg hch1; exact own_rg hch2
  refine own_callI X18 hx hZ (y := (⟨"java/lang/String", "<init>", "([C)V"⟩ : MethodName)) (W := 1) (a := b18) (argsL := [(.ref b1)]) (rest := [(.ref b18)]) rfl hown (hw _ (List.mem_of_getElem? (i := 8) rfl)) (hw _ (List.mem_of_getElem? (i := 9) rfl)) (hw _ (List.mem_of_getElem? (i := 10) rfl)) (by decide) (StrChars.Road.backV (W := 1) hZ hws26 (kI := 4) (hw _ (List.mem_of_getElem? (i := 6) rfl)) (cs := ([ch0, ch1, ch2] : List Int32)) (bs := (([ch0, ch1, ch2] : List Int32)).map (fun c => c.toInt8.toInt32)) (n := 3) (Nat.le_trans F19 (Nat.le_of_eq g18.symm)) F24 A18 G22 G21 F23 (S0.ext F25.2) P5 rfl rfl (by decide) (by decide) hp26 rfl (by decide) (by decide)) e18 (g := (mkF m 65 #[.val (.int p1), .val (.int p2), .val (.int p3), .val (.int p4), .val (.int p5), .val (.ref b1), .val (.ref b9), .unset, .unset, .unset, .unset, .unset, .unset, .unset, .unset, .unset, .unset] [(.ref b1), (.ref b18), (.ref b18)])) rfl (by rw [hml]; rfl) (lenOf pd_1 rfl) rfl (by show 2 * 0 + _ ≤ _; exact Nat.le_of_eq rfl) (hb hby at_65) (by decide) (by decide) (fun v27 T27 h27 L27 X27 e27 q27 => ?_)
  obtain ⟨rfl, M27, K27, PE27, PC27, t27, kb27, gt27, gs27, nx27, PV27, PA27⟩ := q27
  have N27 := Fr.app N17 M27
  replace PA27 : Arv Z h27 t27 kb27 .byte (3 : Int32) [(.int (ch0.toInt8.toInt32)), (.int (ch1.toInt8.toInt32)), (.int (ch2.toInt8.toInt32))] (.int 0) := PA27
  refine own_go (fun t k => XS.astore X27.here hx rfl (hb hby at_68) rfl rfl (l' := #[.val (.int p1), .val (.int p2), .val (.int p3), .val (.int p4), .val (.int p5), .val (.ref b1), .val (.ref b9), .val (.ref b18), .unset, .unset, .unset, .unset, .unset, .unset, .unset, .unset, .unset]) rfl k) ?_
  have F29 : n0 ≤ h27.size := (Nat.le_trans F24 K27.1)
  have F30 : Arv Z h27 b1 k1 .char (3 : Int32) [(.int ch0), (.int ch1), (.int ch2)] (.int (0 : Int32)) := (F23.keep K27 (ninS ne_b1_b18 nin0))
  have F31 : Arv Z h27 b9 k9 .char (3 : Int32) [(.int ch3), (.int ch4), (.int ch5)] (.int (0 : Int32)) := ((V17.ext E18).keep K27 (ninS ne_b9_b18 nin0))
  obtain ⟨T28, h28, X28, e28, E28, A28, D28, -, st28⟩ := newO X27 hx hZ hown (hw _ (List.mem_of_getElem? (i := 5) rfl)) (hw _ (List.mem_of_getElem? (i := 6) rfl)) (hw _ (List.mem_of_getElem? (i := 7) rfl)) e27 (g := (mkF m 70 #[.val (.int p1), .val (.int p2), .val (.int p3), .val (.int p4), .val (.int p5), .val (.ref b1), .val (.ref b9), .val (.ref b18), .unset, .unset, .unset, .unset, .unset, .unset, .unset, .unset, .unset] [])) rfl (hb hby at_70) (by decide) (by decide)
  refine own_go st28 ?_
  obtain ⟨b28, g28⟩ : ∃ z, z = h27.size := ⟨_, rfl⟩
  rw [← g28] at A28 D28 ⊢
  have ne_b1_b28 : b1 ≠ b28 := Nat.ne_of_lt (Nat.lt_of_lt_of_le F30.lt (Nat.le_of_eq g28.symm))
  have ne_b9_b28 : b9 ≠ b28 := Nat.ne_of_lt (Nat.lt_of_lt_of_le F31.lt (Nat.le_of_eq g28.symm))
  have ne_b18_b28 : b18 ≠ b28 := Nat.ne_of_lt (Nat.lt_of_lt_of_le PE27.lt (Nat.le_of_eq g28.symm))
  have ne_t27_b28 : t27 ≠ b28 := Nat.ne_of_lt (Nat.lt_of_lt_of_le PA27.lt (Nat.le_of_eq g28.symm))
  have G32 : Fld Z h28 b28 "java/lang/String" "coder" "B" (.int (0 : Int32)) := D28 (Or.inr (hw _ (List.mem_of_getElem? (i := 31) rfl))) (ty := .byte) (by decide)
  have G33 : Fld Z h28 b28 "java/lang/String" "value" "[B" .null := D28 (Or.inr (hw _ (List.mem_of_getElem? (i := 33) rfl))) (ty := (.array .byte)) (by decide)
  refine own_go (fun t k => XS.dup X28.here hx rfl (hb hby at_73) rfl rfl k) ?_
  refine own_go (fun t k => XS.aload X28.here hx rfl (hb hby at_74) rfl rfl  k) ?_
  show own_Run p e below Φ (T28.setTop (mkF m 76 #[.val (.int p1), .val (.int p2), .val (.int p3), .val (.int p4), .val (.int p5), .val (.ref b1), .val (.ref b9), .val (.ref b18), .unset, .unset, .unset, .unset, .unset, .unset, .unset, .unset, .unset] [(.ref b9), (.ref b28), (.ref b28)]))
  have F34 : Arv Z h28 b9 k9 .char (3 : Int32) [(.int ch3), (.int ch4), (.int ch5)] (.int (0 : Int32)) := (F31.ext E28)
  have F35 : n0 ≤ h28.size := (Nat.le_trans F29 E28.1)
  have F36 : Old Z n0 h28 := ((F25.keep K27 (allS (Nat.le_trans F19 (Nat.le_of_eq g18.symm)) all0)).ext E28)
  have hws37 : ∀ d ∈ StrChars.Road.words, d.before a0 Z = true := fun d hd => hw d ((by decide +kernel : ∀ d ∈ StrChars.Road.words, d ∈ tables_1) d hd)
  have hp37 : ∀ c ∈ ([ch3, ch4, ch5] : List Int32), ¬ c < 0 ∧ ¬ (255 : Int32) < c := by intro c hc; simp only [List.mem_cons, List.not_mem_nil, or_false] at hc; rcases hc with rfl | rfl | rfl; exact own_rg hch3; exact own_rg hch4; exact own_rg hch5
  refine own_callI X28 hx hZ (y := (⟨"java/lang/String", "<init>", "([C)V"⟩ : MethodName)) (W := 1) (a := b28) (argsL := [(.ref b9)]) (rest := [(.ref b28)]) rfl hown (hw _ (List.mem_of_getElem? (i := 8) rfl)) (hw _ (List.mem_of_getElem? (i := 9) rfl)) (hw _ (List.mem_of_getElem? (i := 10) rfl)) (by decide) (StrChars.Road.backV (W := 1) hZ hws37 (kI := 4) (hw _ (List.mem_of_getElem? (i := 6) rfl)) (cs := ([ch3, ch4, ch5] : List Int32)) (bs := (([ch3, ch4, ch5] : List Int32)).map (fun c => c.toInt8.toInt32)) (n := 3) (Nat.le_trans F29 (Nat.le_of_eq g28.symm)) F35 A28 G33 G32 F34 (S0.ext F36.2) P5 rfl rfl (by decide) (by decide) hp37 rfl (by decide) (by decide)) e28 (g := (mkF m 76 #[.val (.int p1), .val (.int p2), .val (.int p3), .val (.int p4), .val (.int p5), .val (.ref b1), .val (.ref b9), .val (.ref b18), .unset, .unset, .unset, .unset, .unset, .unset, .unset, .unset, .unset] [(.ref b9), (.ref b28), (.ref b28)])) rfl (by rw [hml]; rfl) (lenOf pd_1 rfl) rfl (by show 2 * 0 + _ ≤ _; exact Nat.le_of_eq rfl) (hb hby at_76) (by decide) (by decide) (fun v38 T38 h38 L38 X38 e38 q38 => ?_)
  obtain ⟨rfl, M38, K38, PE38, PC38, t38, kb38, gt38, gs38, nx38, PV38, PA38⟩ := q38
  have N38 := Fr.app N27 M38
  replace PA38 : Arv Z h38 t38 kb38 .byte (3 : Int32) [(.int (ch3.toInt8.toInt32)), (.int (ch4.toInt8.toInt32)), (.int (ch5.toInt8.toInt32))] (.int 0) := PA38
  refine own_go (fun t k => XS.astore X38.here hx rfl (hb hby at_79) rfl rfl (l' := #[.val (.int p1), .val (.int p2), .val (.int p3), .val (.int p4), .val (.int p5), .val (.ref b1), .val (.ref b9), .val (.ref b18), .val (.ref b28), .unset, .unset, .unset, .unset, .unset, .unset, .unset, .unset]) rfl k) ?_
  have F40 : n0 ≤ h38.size := (Nat.le_trans F35 K38.1)
  have F41 : Arv Z h38 b1 k1 .char (3 : Int32) [(.int ch0), (.int ch1), (.int ch2)] (.int (0 : Int32)) := ((F30.ext E28).keep K38 (ninS ne_b1_b28 nin0))
  have F42 : Arv Z h38 b9 k9 .char (3 : Int32) [(.int ch3), (.int ch4), (.int ch5)] (.int (0 : Int32)) := (F34.keep K38 (ninS ne_b9_b28 nin0))
  have F43 : Exa Z h38 b18 "java/lang/String" := ((PE27.ext E28).keep K38)
  have F44 : Arv Z h38 t27 kb27 .byte (3 : Int32) [(.int (ch0.toInt8.toInt32)), (.int (ch1.toInt8.toInt32)), (.int (ch2.toInt8.toInt32))] (.int 0) := ((PA27.ext E28).keep K38 (ninS ne_t27_b28 nin0))
  obtain ⟨T39, h39, X39, e39, E39, A39, D39, -, st39⟩ := newO X38 hx hZ hown (hw _ (List.mem_of_getElem? (i := 34) rfl)) (hw _ (List.mem_of_getElem? (i := 35) rfl)) (hw _ (List.mem_of_getElem? (i := 36) rfl)) e38 (g := (mkF m 81 #[.val (.int p1), .val (.int p2), .val (.int p3), .val (.int p4), .val (.int p5), .val (.ref b1), .val (.ref b9), .val (.ref b18), .val (.ref b28), .unset, .unset, .unset, .unset, .unset, .unset, .unset, .unset] [])) rfl (hb hby at_81) (by decide) (by decide)
  refine own_go st39 ?_
  obtain ⟨b39, g39⟩ : ∃ z, z = h38.size := ⟨_, rfl⟩
  rw [← g39] at A39 D39 ⊢
  have ne_b1_b39 : b1 ≠ b39 := Nat.ne_of_lt (Nat.lt_of_lt_of_le F41.lt (Nat.le_of_eq g39.symm))
  have ne_b9_b39 : b9 ≠ b39 := Nat.ne_of_lt (Nat.lt_of_lt_of_le F42.lt (Nat.le_of_eq g39.symm))
  have ne_b18_b39 : b18 ≠ b39 := Nat.ne_of_lt (Nat.lt_of_lt_of_le F43.lt (Nat.le_of_eq g39.symm))
  have ne_t27_b39 : t27 ≠ b39 := Nat.ne_of_lt (Nat.lt_of_lt_of_le F44.lt (Nat.le_of_eq g39.symm))
  have ne_b28_b39 : b28 ≠ b39 := Nat.ne_of_lt (Nat.lt_of_lt_of_le PE38.lt (Nat.le_of_eq g39.symm))
  have ne_t38_b39 : t38 ≠ b39 := Nat.ne_of_lt (Nat.lt_of_lt_of_le PA38.lt (Nat.le_of_eq g39.symm))
  have G45 : Fld Z h39 b39 "com/example/profitmine/profitmine/io/Fields" "line" "Ljava/lang/String;" .null := D39 (Or.inl (hw _ (List.mem_of_getElem? (i := 45) rfl))) (ty := (.object "java/lang/String")) (by decide)
  have G46 : Fld Z h39 b39 "com/example/profitmine/profitmine/io/Fields" "count" "I" (.int (0 : Int32)) := D39 (Or.inl (hw _ (List.mem_of_getElem? (i := 52) rfl))) (ty := .int) (by decide)
  have G47 : Fld Z h39 b39 "com/example/profitmine/profitmine/io/Fields" "start" "I" (.int (0 : Int32)) := D39 (Or.inl (hw _ (List.mem_of_getElem? (i := 54) rfl))) (ty := .int) (by decide)
  have G48 : Fld Z h39 b39 "com/example/profitmine/profitmine/io/Fields" "end" "I" (.int (0 : Int32)) := D39 (Or.inl (hw _ (List.mem_of_getElem? (i := 56) rfl))) (ty := .int) (by decide)
  refine own_go (fun t k => XS.dup X39.here hx rfl (hb hby at_84) rfl rfl k) ?_
  have F49 : n0 ≤ h39.size := (Nat.le_trans F40 E39.1)
  have F51 : ky0 ≤ h39.size := (Nat.le_trans (Nat.le_trans (Nat.le_trans (Nat.le_trans (Nat.le_trans (Nat.le_trans (Nat.le_trans (Nat.le_trans (Nat.le_trans (Nat.le_trans (Nat.le_trans (Nat.le_trans (Nat.le_trans Y0 E1.1) (Keep.of_wr W4).1) (Keep.of_wr W6).1) (Keep.of_wr W8).1) E9.1) (Keep.of_wr W13).1) (Keep.of_wr W15).1) (Keep.of_wr W17).1) E18.1) K27.1) E28.1) K38.1) E39.1)
  refine own_callIW X39 hx hZ (y := (⟨"com/example/profitmine/profitmine/io/Fields", "<init>", "()V"⟩ : MethodName)) (W := 1) (a := b39) (argsL := []) (rest := [(.ref b39)]) rfl hown hS0 F51 (hw _ (List.mem_of_getElem? (i := 37) rfl)) (hw _ (List.mem_of_getElem? (i := 38) rfl)) (hw _ (List.mem_of_getElem? (i := 39) rfl)) (by decide) (own_bkW (rm_fi l Z a0 hw b39 h39 n0 A39 G45 G46 G47 G48 (Nat.le_trans F40 (Nat.le_of_eq g39.symm)) F49) hZ (hw _ (List.mem_of_getElem? (i := 39) rfl)) (hw _ (List.mem_of_getElem? (i := 36) rfl)) (by decide) (by decide)) e39 (g := (mkF m 85 #[.val (.int p1), .val (.int p2), .val (.int p3), .val (.int p4), .val (.int p5), .val (.ref b1), .val (.ref b9), .val (.ref b18), .val (.ref b28), .unset, .unset, .unset, .unset, .unset, .unset, .unset, .unset] [(.ref b39), (.ref b39)])) rfl (by rw [hml]; rfl) (lenOf pd_3 rfl) rfl (by show 2 * 0 + _ ≤ _; exact Nat.le_of_eq rfl) (hb hby at_85) (by decide) (by decide) (fun v50 T50 h50 L50 vm50 ky50 X50 e50 hZ hown hS50 Y50 q50 => ?_)
  obtain ⟨rfl, M50, K50, P50_0, P50_1, P50_2, P50_3⟩ := q50
  have N50 := Fr.app N38 M50
  obtain ⟨lx50, FL50⟩ := P50_3
  refine own_go (fun t k => XS.astore X50.here hx rfl (hb hby at_88) rfl rfl (l' := #[.val (.int p1), .val (.int p2), .val (.int p3), .val (.int p4), .val (.int p5), .val (.ref b1), .val (.ref b9), .val (.ref b18), .val (.ref b28), .val (.ref b39), .unset, .unset, .unset, .unset, .unset, .unset, .unset]) rfl k) ?_
  refine own_go (fun t k => XS.aload X50.here hx rfl (hb hby at_90) rfl rfl  k) ?_
  refine own_go (fun t k => XS.aload X50.here hx rfl (hb hby at_92) rfl rfl  k) ?_
  have F52 : Exa Z h50 b39 "com/example/profitmine/profitmine/io/Fields" := (A39.keep K50)
  refine own_callV X50 hx hZ (y := (⟨"com/example/profitmine/profitmine/io/Fields", "walk", "(Ljava/lang/String;)V"⟩ : MethodName)) (z := (⟨"com/example/profitmine/profitmine/io/Fields", "walk", "(Ljava/lang/String;)V"⟩ : MethodName)) (W := 0) (a := b39) (argsL := [(.ref b18)]) (rest := []) hown (hw _ (List.mem_of_getElem? (i := 46) rfl)) (hw _ (List.mem_of_getElem? (i := 47) rfl)) (notFace_of_selects (args := #[]) (mvT hZ (hw _ (List.mem_of_getElem? (i := 49) rfl)))) (hw _ (List.mem_of_getElem? (i := 49) rfl)) (hw _ (List.mem_of_getElem? (i := 48) rfl)) (by decide) (own_bk (rm_wk l Z a0 hw b39 b18 lx50 (0 : Int32) (0 : Int32) (0 : Int32) h50 n0 F52 FL50 P50_0 P50_1 P50_2 (Nat.le_trans F40 (Nat.le_of_eq g39.symm))) hZ (hw _ (List.mem_of_getElem? (i := 50) rfl)) (hw _ (List.mem_of_getElem? (i := 36) rfl)) (by decide) (by decide)) e50 F52 (g := (mkF m 94 #[.val (.int p1), .val (.int p2), .val (.int p3), .val (.int p4), .val (.int p5), .val (.ref b1), .val (.ref b9), .val (.ref b18), .val (.ref b28), .val (.ref b39), .unset, .unset, .unset, .unset, .unset, .unset, .unset] [(.ref b18), (.ref b39)])) rfl (by rw [hml]; rfl) (lenOf pd_7 rfl) rfl (by show 2 * 0 + _ ≤ _; exact Nat.le_of_eq rfl) (hb hby at_94) (by decide) (by decide) (fun v53 T53 h53 L53 X53 e53 q53 => ?_)
  obtain ⟨rfl, M53, K53, P53_0, P53_1, P53_2, P53_3⟩ := q53
  have N53 := Fr.app N50 M53
  show own_Run p e below Φ (T53.setTop (mkF m 97 #[.val (.int p1), .val (.int p2), .val (.int p3), .val (.int p4), .val (.int p5), .val (.ref b1), .val (.ref b9), .val (.ref b18), .val (.ref b28), .val (.ref b39), .unset, .unset, .unset, .unset, .unset, .unset, .unset] []))
  refine own_go (fun t k => XS.iloadN X53.here hx rfl (hb hby at_97) rfl  k) ?_
  refine own_go (fun t k => XS.iconst X53.here hx rfl (hb hby at_98) k) ?_
  refine own_go (fun t k => XS.iand X53.here hx rfl (hb hby at_99) rfl k) ?_
  refine own_go (fun t k => XS.istore X53.here hx rfl (hb hby at_100) rfl (l' := #[.val (.int p1), .val (.int p2), .val (.int p3), .val (.int p4), .val (.int p5), .val (.ref b1), .val (.ref b9), .val (.ref b18), .val (.ref b28), .val (.ref b39), .val (.int (p2 &&& (3 : Int32))), .unset, .unset, .unset, .unset, .unset, .unset]) rfl k) ?_
  show own_Run p e below Φ (T53.setTop (mkF m 102 #[.val (.int p1), .val (.int p2), .val (.int p3), .val (.int p4), .val (.int p5), .val (.ref b1), .val (.ref b9), .val (.ref b18), .val (.ref b28), .val (.ref b39), .val (.int (p2 &&& (3 : Int32))), .unset, .unset, .unset, .unset, .unset, .unset] []))
  have F54 : Exa Z h53 b39 "com/example/profitmine/profitmine/io/Fields" := (F52.keep K53)
  have F55 : Exa Z h53 b28 "java/lang/String" := (((PE38.ext E39).keep K50).keep K53)
  have F56 : Fld Z h53 b28 "java/lang/String" "value" "[B" (.ref t38) := (((PV38.ext E39).keep K50 (ninS ne_b28_b39 nin0)).keep K53 (ninS ne_b28_b39 nin0))
  have F57 : Fld Z h53 b28 "java/lang/String" "coder" "B" (.int 0) := (((PC38.ext E39).keep K50 (ninS ne_b28_b39 nin0)).keep K53 (ninS ne_b28_b39 nin0))
  have F58 : Arv Z h53 t38 kb38 .byte (3 : Int32) [(.int (ch3.toInt8.toInt32)), (.int (ch4.toInt8.toInt32)), (.int (ch5.toInt8.toInt32))] (.int 0) := (((PA38.ext E39).keep K50 (ninS ne_t38_b39 nin0)).keep K53 (ninS ne_t38_b39 nin0))
  have F59 : Arv Z h53 b9 k9 .char (3 : Int32) [(.int ch3), (.int ch4), (.int ch5)] (.int (0 : Int32)) := (((F42.ext E39).keep K50 (ninS ne_b9_b39 nin0)).keep K53 (ninS ne_b9_b39 nin0))
  have F60 : n0 ≤ h53.size := (Nat.le_trans (Nat.le_trans F49 K50.1) K53.1)
  have F61 : Old Z n0 h53 := ((((F36.keep K38 (allS (Nat.le_trans F29 (Nat.le_of_eq g28.symm)) all0)).ext E39).keep K50 (allS (Nat.le_trans F40 (Nat.le_of_eq g39.symm)) all0)).keep K53 (allS (Nat.le_trans F40 (Nat.le_of_eq g39.symm)) all0))
  have F62 : ky50 ≤ h53.size := (Nat.le_trans Y50 K53.1)
  have J138_63 : ∀ (sn : Int32) (en : Int32) (cn : Int32) (T64 : State) (h64 : Heap) (l64 : List Loc) (c64 z64 : Nat), (Stand p l e room_1 (s.setVm vm50) m #[(.int p1), (.int p2), (.int p3), (.int p4), (.int p5)] below meth c T64 l64 c64 z64) → (T64.heap = h64) → (Fr n0 l64) → (c64 ≤ 9) → (z64 ≤ 28) → (Exa Z h64 b39 "com/example/profitmine/profitmine/io/Fields") → (Fld Z h64 b39 "com/example/profitmine/profitmine/io/Fields" "line" "Ljava/lang/String;" (.ref b18)) → (Exa Z h64 b28 "java/lang/String") → (Fld Z h64 b28 "java/lang/String" "value" "[B" (.ref t38)) → (Fld Z h64 b28 "java/lang/String" "coder" "B" (.int 0)) → (Arv Z h64 t38 kb38 .byte (3 : Int32) [(.int (ch3.toInt8.toInt32)), (.int (ch4.toInt8.toInt32)), (.int (ch5.toInt8.toInt32))] (.int 0)) → (Arv Z h64 b9 k9 .char (3 : Int32) [(.int ch3), (.int ch4), (.int ch5)] (.int (0 : Int32))) → (n0 ≤ h64.size) → (Old Z n0 h64) → (ky50 ≤ h64.size) → (Fld Z h64 b39 "com/example/profitmine/profitmine/io/Fields" "start" "I" (.int sn)) → (Fld Z h64 b39 "com/example/profitmine/profitmine/io/Fields" "end" "I" (.int en)) → (Fld Z h64 b39 "com/example/profitmine/profitmine/io/Fields" "count" "I" (.int cn)) → own_Run p e below Φ (T64.setTop (mkF m 138 #[.val (.int p1), .val (.int p2), .val (.int p3), .val (.int p4), .val (.int p5), .val (.ref b1), .val (.ref b9), .val (.ref b18), .val (.ref b28), .val (.ref b39), .val (.int (p2 &&& (3 : Int32))), .unset, .unset, .unset, .unset, .unset, .unset] [])) := by
    intro sn en cn T64 h64 l64 c64 z64 X64 e64 N64 hc64 hs64 F65 F66 F67 F68 F69 F70 F71 F72 F73 F74 F75 F76 F77
    show own_Run p e below Φ (T64.setTop (mkF m 138 #[.val (.int p1), .val (.int p2), .val (.int p3), .val (.int p4), .val (.int p5), .val (.ref b1), .val (.ref b9), .val (.ref b18), .val (.ref b28), .val (.ref b39), .val (.int (p2 &&& (3 : Int32))), .unset, .unset, .unset, .unset, .unset, .unset] []))
    refine own_go (fun t k => XS.aload X64.here hx rfl (hb hby at_138) rfl rfl  k) ?_
    refine own_go (fun t k => XS.aload X64.here hx rfl (hb hby at_140) rfl rfl  k) ?_
    refine own_callV X64 hx hZ (y := (⟨"com/example/profitmine/profitmine/io/Fields", "walk", "(Ljava/lang/String;)V"⟩ : MethodName)) (z := (⟨"com/example/profitmine/profitmine/io/Fields", "walk", "(Ljava/lang/String;)V"⟩ : MethodName)) (W := 0) (a := b39) (argsL := [(.ref b28)]) (rest := []) hown (hw _ (List.mem_of_getElem? (i := 46) rfl)) (hw _ (List.mem_of_getElem? (i := 47) rfl)) (notFace_of_selects (args := #[]) (mvT hZ (hw _ (List.mem_of_getElem? (i := 49) rfl)))) (hw _ (List.mem_of_getElem? (i := 49) rfl)) (hw _ (List.mem_of_getElem? (i := 48) rfl)) (by decide) (own_bk (rm_wk l Z a0 hw b39 b28 b18 cn sn en h64 n0 F65 F66 F77 F75 F76 (Nat.le_trans F40 (Nat.le_of_eq g39.symm))) hZ (hw _ (List.mem_of_getElem? (i := 50) rfl)) (hw _ (List.mem_of_getElem? (i := 36) rfl)) (by decide) (by decide)) e64 F65 (g := (mkF m 142 #[.val (.int p1), .val (.int p2), .val (.int p3), .val (.int p4), .val (.int p5), .val (.ref b1), .val (.ref b9), .val (.ref b18), .val (.ref b28), .val (.ref b39), .val (.int (p2 &&& (3 : Int32))), .unset, .unset, .unset, .unset, .unset, .unset] [(.ref b28), (.ref b39)])) rfl (by rw [hml]; rfl) (lenOf pd_7 rfl) rfl (by show 2 * 0 + _ ≤ _; exact Nat.le_of_eq rfl) (hb hby at_142) (own_le hc64 (by decide)) (own_le hs64 (by decide)) (fun v78 T78 h78 L78 X78 e78 q78 => ?_)
    obtain ⟨rfl, M78, K78, P78_0, P78_1, P78_2, P78_3⟩ := q78
    have N78 := Fr.app N64 M78
    refine own_go (fun t k => XS.aload X78.here hx rfl (hb hby at_145) rfl rfl  k) ?_
    have F80 : Exa Z h78 b39 "com/example/profitmine/profitmine/io/Fields" := (F65.keep K78)
    refine own_callV X78 hx hZ (y := (⟨"com/example/profitmine/profitmine/io/Fields", "line", "()Ljava/lang/String;"⟩ : MethodName)) (z := (⟨"com/example/profitmine/profitmine/io/Fields", "line", "()Ljava/lang/String;"⟩ : MethodName)) (W := 0) (a := b39) (argsL := []) (rest := []) hown (hw _ (List.mem_of_getElem? (i := 97) rfl)) (hw _ (List.mem_of_getElem? (i := 98) rfl)) (notFace_of_selects (args := #[]) (mvT hZ (hw _ (List.mem_of_getElem? (i := 100) rfl)))) (hw _ (List.mem_of_getElem? (i := 100) rfl)) (hw _ (List.mem_of_getElem? (i := 99) rfl)) (by decide) (own_bk (rm_gline l Z a0 hw b39 b28 h78 n0 P78_0) hZ (hw _ (List.mem_of_getElem? (i := 101) rfl)) (hw _ (List.mem_of_getElem? (i := 36) rfl)) (by decide) (by decide)) e78 F80 (g := (mkF m 147 #[.val (.int p1), .val (.int p2), .val (.int p3), .val (.int p4), .val (.int p5), .val (.ref b1), .val (.ref b9), .val (.ref b18), .val (.ref b28), .val (.ref b39), .val (.int (p2 &&& (3 : Int32))), .unset, .unset, .unset, .unset, .unset, .unset] [(.ref b39)])) rfl (by rw [hml]; rfl) (lenOf pd_15 rfl) rfl (by show 2 * 0 + _ ≤ _; exact Nat.le_of_eq rfl) (hb hby at_147) (own_le (Nat.add_le_add_right hc64 0) (by decide)) (own_le (Nat.add_le_add_right hs64 0) (by decide)) (fun v79 T79 h79 L79 X79 e79 q79 => ?_)
    obtain ⟨rfl, M79, s79⟩ := q79
    replace e79 : T79.heap = h78 := e79.trans s79
    have N79 := Fr.app N78 M79
    refine own_go (fun t k => XS.aload X79.here hx rfl (hb hby at_150) rfl rfl  k) ?_
    refine own_go (fun t k => Jvm.RoadKit.acmp (g := (mkF m 152 #[.val (.int p1), .val (.int p2), .val (.int p3), .val (.int p4), .val (.int p5), .val (.ref b1), .val (.ref b9), .val (.ref b18), .val (.ref b28), .val (.ref b39), .val (.int (p2 &&& (3 : Int32))), .unset, .unset, .unset, .unset, .unset, .unset] [(.ref b28), (.ref b28)])) X79 hx rfl rfl rfl (pc0 := 152) (pc' := 155) (same := true) rfl (hb hby at_152) rfl (decide_eq_true rfl) (by decide) (by decide) k) ?_
    refine own_go (fun t k => XS.aload X79.here hx rfl (hb hby at_155) rfl rfl  k) ?_
    refine own_callV X79 hx hZ (y := (⟨"com/example/profitmine/profitmine/io/Fields", "start", "()I"⟩ : MethodName)) (z := (⟨"com/example/profitmine/profitmine/io/Fields", "start", "()I"⟩ : MethodName)) (W := 0) (a := b39) (argsL := []) (rest := []) hown (hw _ (List.mem_of_getElem? (i := 102) rfl)) (hw _ (List.mem_of_getElem? (i := 103) rfl)) (notFace_of_selects (args := #[]) (mvT hZ (hw _ (List.mem_of_getElem? (i := 105) rfl)))) (hw _ (List.mem_of_getElem? (i := 105) rfl)) (hw _ (List.mem_of_getElem? (i := 104) rfl)) (by decide) (own_bk (rm_gstart l Z a0 hw b39 (0 : Int32) h78 n0 P78_2) hZ (hw _ (List.mem_of_getElem? (i := 106) rfl)) (hw _ (List.mem_of_getElem? (i := 36) rfl)) (by decide) (by decide)) e79 F80 (g := (mkF m 157 #[.val (.int p1), .val (.int p2), .val (.int p3), .val (.int p4), .val (.int p5), .val (.ref b1), .val (.ref b9), .val (.ref b18), .val (.ref b28), .val (.ref b39), .val (.int (p2 &&& (3 : Int32))), .unset, .unset, .unset, .unset, .unset, .unset] [(.ref b39)])) rfl (by rw [hml]; rfl) (lenOf pd_9 rfl) rfl (by show 2 * 0 + _ ≤ _; exact Nat.le_of_eq rfl) (hb hby at_157) (own_le (Nat.add_le_add_right (Nat.add_le_add_right hc64 0) 0) (by decide)) (own_le (Nat.add_le_add_right (Nat.add_le_add_right hs64 0) 0) (by decide)) (fun v81 T81 h81 L81 X81 e81 q81 => ?_)
    obtain ⟨rfl, M81, s81⟩ := q81
    replace e81 : T81.heap = h78 := e81.trans s81
    have N81 := Fr.app N79 M81
    show own_Run p e below Φ (T81.setTop (mkF m 160 #[.val (.int p1), .val (.int p2), .val (.int p3), .val (.int p4), .val (.int p5), .val (.ref b1), .val (.ref b9), .val (.ref b18), .val (.ref b28), .val (.ref b39), .val (.int (p2 &&& (3 : Int32))), .unset, .unset, .unset, .unset, .unset, .unset] [(.int (0 : Int32))]))
    refine own_go (fun t k => XS.ifNo X81.here hx rfl (hb hby at_160) rfl ((if0 _ _).trans (teq (rfl : (0 : Int32) = (0 : Int32))).2) k) ?_
    refine own_go (fun t k => XS.aload X81.here hx rfl (hb hby at_163) rfl rfl  k) ?_
    refine own_callV X81 hx hZ (y := (⟨"com/example/profitmine/profitmine/io/Fields", "end", "()I"⟩ : MethodName)) (z := (⟨"com/example/profitmine/profitmine/io/Fields", "end", "()I"⟩ : MethodName)) (W := 0) (a := b39) (argsL := []) (rest := []) hown (hw _ (List.mem_of_getElem? (i := 107) rfl)) (hw _ (List.mem_of_getElem? (i := 108) rfl)) (notFace_of_selects (args := #[]) (mvT hZ (hw _ (List.mem_of_getElem? (i := 110) rfl)))) (hw _ (List.mem_of_getElem? (i := 110) rfl)) (hw _ (List.mem_of_getElem? (i := 109) rfl)) (by decide) (own_bk (rm_gend l Z a0 hw b39 (0 : Int32) h78 n0 P78_3) hZ (hw _ (List.mem_of_getElem? (i := 111) rfl)) (hw _ (List.mem_of_getElem? (i := 36) rfl)) (by decide) (by decide)) e81 F80 (g := (mkF m 165 #[.val (.int p1), .val (.int p2), .val (.int p3), .val (.int p4), .val (.int p5), .val (.ref b1), .val (.ref b9), .val (.ref b18), .val (.ref b28), .val (.ref b39), .val (.int (p2 &&& (3 : Int32))), .unset, .unset, .unset, .unset, .unset, .unset] [(.ref b39)])) rfl (by rw [hml]; rfl) (lenOf pd_9 rfl) rfl (by show 2 * 0 + _ ≤ _; exact Nat.le_of_eq rfl) (hb hby at_165) (own_le (Nat.add_le_add_right (Nat.add_le_add_right (Nat.add_le_add_right hc64 0) 0) 0) (by decide)) (own_le (Nat.add_le_add_right (Nat.add_le_add_right (Nat.add_le_add_right hs64 0) 0) 0) (by decide)) (fun v82 T82 h82 L82 X82 e82 q82 => ?_)
    obtain ⟨rfl, M82, s82⟩ := q82
    replace e82 : T82.heap = h78 := e82.trans s82
    have N82 := Fr.app N81 M82
    refine own_go (fun t k => XS.ifNo X82.here hx rfl (hb hby at_168) rfl ((if0 _ _).trans (teq (rfl : (0 : Int32) = (0 : Int32))).2) k) ?_
    refine own_go (fun t k => XS.iconst X82.here hx rfl (hb hby at_171) k) ?_
    refine own_go (fun t k => XS.goto X82.here hx rfl (pc0 := 172) (pc' := 176) rfl (hb hby at_172) (by decide) (by decide) k) ?_
    refine own_go (fun t k => XS.istore X82.here hx rfl (hb hby at_176) rfl (l' := #[.val (.int p1), .val (.int p2), .val (.int p3), .val (.int p4), .val (.int p5), .val (.ref b1), .val (.ref b9), .val (.ref b18), .val (.ref b28), .val (.ref b39), .val (.int (p2 &&& (3 : Int32))), .val (.int (1 : Int32)), .unset, .unset, .unset, .unset, .unset]) rfl k) ?_
    refine own_go (fun t k => XS.iconst X82.here hx rfl (hb hby at_178) k) ?_
    refine own_go (fun t k => XS.istore X82.here hx rfl (hb hby at_179) rfl (l' := #[.val (.int p1), .val (.int p2), .val (.int p3), .val (.int p4), .val (.int p5), .val (.ref b1), .val (.ref b9), .val (.ref b18), .val (.ref b28), .val (.ref b39), .val (.int (p2 &&& (3 : Int32))), .val (.int (1 : Int32)), .val (.int (0 : Int32)), .unset, .unset, .unset, .unset]) rfl k) ?_
    show own_Run p e below Φ (T82.setTop (mkF m 181 #[.val (.int p1), .val (.int p2), .val (.int p3), .val (.int p4), .val (.int p5), .val (.ref b1), .val (.ref b9), .val (.ref b18), .val (.ref b28), .val (.ref b39), .val (.int (p2 &&& (3 : Int32))), .val (.int (1 : Int32)), .val (.int (0 : Int32)), .unset, .unset, .unset, .unset] []))
    refine own_go (fun t k => XS.iload X82.here hx rfl (hb hby at_181) rfl  k) ?_
    refine own_go (fun t k => XS.iconst X82.here hx rfl (hb hby at_183) k) ?_
    refine own_go (fun t k => XS.icmpNo X82.here hx rfl (hb hby at_184) rfl (tlt (by decide : (0 : Int32) < (3 : Int32))).2.1 k) ?_
    refine own_go (fun t k => XS.aload X82.here hx rfl (hb hby at_187) rfl rfl  k) ?_
    refine own_go (fun t k => XS.iload X82.here hx rfl (hb hby at_189) rfl  k) ?_
    have F83 : Arv Z h78 b9 k9 .char (3 : Int32) [(.int ch3), (.int ch4), (.int ch5)] (.int (0 : Int32)) := (F71.keep K78 (ninS ne_b9_b39 nin0))
    refine own_caload X82 hx hZ e82 F83 (j := (0 : Int32)) (v := (.int ch3)) ⟨by decide, by decide⟩ rfl (g := (mkF m 191 #[.val (.int p1), .val (.int p2), .val (.int p3), .val (.int p4), .val (.int p5), .val (.ref b1), .val (.ref b9), .val (.ref b18), .val (.ref b28), .val (.ref b39), .val (.int (p2 &&& (3 : Int32))), .val (.int (1 : Int32)), .val (.int (0 : Int32)), .unset, .unset, .unset, .unset] [(.int (0 : Int32)), (.ref b9)])) rfl rfl (hb hby at_191) ?_
    refine own_callS X82 hx hZ (y := (⟨"com/example/profitmine/profitmine/io/FieldsWalkPinLaw", "blank", "(C)Z"⟩ : MethodName)) (W := 0) (argsL := [(.int ch3)]) (rest := []) hown (hw _ (List.mem_of_getElem? (i := 112) rfl)) (hw _ (List.mem_of_getElem? (i := 113) rfl)) (hw _ (List.mem_of_getElem? (i := 3) rfl)) (hw _ (List.mem_of_getElem? (i := 114) rfl)) (by decide) (own_bk (rm_bl l Z a0 hw ch3 h78 n0 ) hZ (hw _ (List.mem_of_getElem? (i := 114) rfl)) (hw _ (List.mem_of_getElem? (i := 3) rfl)) (by decide) (by decide)) e82 (g := (mkF m 192 #[.val (.int p1), .val (.int p2), .val (.int p3), .val (.int p4), .val (.int p5), .val (.ref b1), .val (.ref b9), .val (.ref b18), .val (.ref b28), .val (.ref b39), .val (.int (p2 &&& (3 : Int32))), .val (.int (1 : Int32)), .val (.int (0 : Int32)), .unset, .unset, .unset, .unset] [(.int ch3)])) rfl (by rw [hml]; rfl) (lenOf pd_14 rfl) rfl (by show 2 * 0 + _ ≤ _; exact Nat.le_of_eq rfl) (hb hby at_192) (own_le (Nat.add_le_add_right (Nat.add_le_add_right (Nat.add_le_add_right (Nat.add_le_add_right hc64 0) 0) 0) 0) (by decide)) (own_le (Nat.add_le_add_right (Nat.add_le_add_right (Nat.add_le_add_right (Nat.add_le_add_right hs64 0) 0) 0) 0) (by decide)) (fun v84 T84 h84 L84 X84 e84 q84 => ?_)
    obtain ⟨rfl, M84, s84⟩ := q84
    replace e84 : T84.heap = h78 := e84.trans s84
    have N84 := Fr.app N82 M84
    by_cases hc195 : (own_blk ch3) = (0 : Int32)
    · refine own_go (fun t k => XS.ifYes X84.here hx rfl (pc0 := 195) (pc' := 201) rfl (hb hby at_195) rfl ((if0 _ _).trans (teq hc195).1) (by decide) (by decide) k) ?_
      refine own_go (fun t k => XS.iload X84.here hx rfl (hb hby at_201) rfl  k) ?_
      show own_Run p e below Φ (T84.setTop (mkF m 203 #[.val (.int p1), .val (.int p2), .val (.int p3), .val (.int p4), .val (.int p5), .val (.ref b1), .val (.ref b9), .val (.ref b18), .val (.ref b28), .val (.ref b39), .val (.int (p2 &&& (3 : Int32))), .val (.int (1 : Int32)), .val (.int (0 : Int32)), .unset, .unset, .unset, .unset] [(.int (0 : Int32))]))
      refine own_go (fun t k => XS.iconst X84.here hx rfl (hb hby at_203) k) ?_
      refine own_go (fun t k => XS.icmpNo X84.here hx rfl (hb hby at_204) rfl (tlt (by decide : (0 : Int32) < (3 : Int32))).2.1 k) ?_
      refine own_go (fun t k => XS.aload X84.here hx rfl (hb hby at_207) rfl rfl  k) ?_
      refine own_go (fun t k => XS.iload X84.here hx rfl (hb hby at_209) rfl  k) ?_
      refine own_caload X84 hx hZ e84 F83 (j := (0 : Int32)) (v := (.int ch3)) ⟨by decide, by decide⟩ rfl (g := (mkF m 211 #[.val (.int p1), .val (.int p2), .val (.int p3), .val (.int p4), .val (.int p5), .val (.ref b1), .val (.ref b9), .val (.ref b18), .val (.ref b28), .val (.ref b39), .val (.int (p2 &&& (3 : Int32))), .val (.int (1 : Int32)), .val (.int (0 : Int32)), .unset, .unset, .unset, .unset] [(.int (0 : Int32)), (.ref b9)])) rfl rfl (hb hby at_211) ?_
      refine own_callS X84 hx hZ (y := (⟨"com/example/profitmine/profitmine/io/FieldsWalkPinLaw", "blank", "(C)Z"⟩ : MethodName)) (W := 0) (argsL := [(.int ch3)]) (rest := []) hown (hw _ (List.mem_of_getElem? (i := 112) rfl)) (hw _ (List.mem_of_getElem? (i := 113) rfl)) (hw _ (List.mem_of_getElem? (i := 3) rfl)) (hw _ (List.mem_of_getElem? (i := 114) rfl)) (by decide) (own_bk (rm_bl l Z a0 hw ch3 h78 n0 ) hZ (hw _ (List.mem_of_getElem? (i := 114) rfl)) (hw _ (List.mem_of_getElem? (i := 3) rfl)) (by decide) (by decide)) e84 (g := (mkF m 212 #[.val (.int p1), .val (.int p2), .val (.int p3), .val (.int p4), .val (.int p5), .val (.ref b1), .val (.ref b9), .val (.ref b18), .val (.ref b28), .val (.ref b39), .val (.int (p2 &&& (3 : Int32))), .val (.int (1 : Int32)), .val (.int (0 : Int32)), .unset, .unset, .unset, .unset] [(.int ch3)])) rfl (by rw [hml]; rfl) (lenOf pd_14 rfl) rfl (by show 2 * 0 + _ ≤ _; exact Nat.le_of_eq rfl) (hb hby at_212) (own_le (Nat.add_le_add_right (Nat.add_le_add_right (Nat.add_le_add_right (Nat.add_le_add_right (Nat.add_le_add_right hc64 0) 0) 0) 0) 0) (by decide)) (own_le (Nat.add_le_add_right (Nat.add_le_add_right (Nat.add_le_add_right (Nat.add_le_add_right (Nat.add_le_add_right hs64 0) 0) 0) 0) 0) (by decide)) (fun v85 T85 h85 L85 X85 e85 q85 => ?_)
      obtain ⟨rfl, M85, s85⟩ := q85
      replace e85 : T85.heap = h78 := e85.trans s85
      have N85 := Fr.app N84 M85
      refine own_go (fun t k => XS.ifYes X85.here hx rfl (pc0 := 215) (pc' := 221) rfl (hb hby at_215) rfl ((if0 _ _).trans (teq hc195).1) (by decide) (by decide) k) ?_
      refine own_go (fun t k => XS.iload X85.here hx rfl (hb hby at_221) rfl  k) ?_
      refine own_go (fun t k => XS.iconst X85.here hx rfl (hb hby at_223) k) ?_
      show own_Run p e below Φ (T85.setTop (mkF m 224 #[.val (.int p1), .val (.int p2), .val (.int p3), .val (.int p4), .val (.int p5), .val (.ref b1), .val (.ref b9), .val (.ref b18), .val (.ref b28), .val (.ref b39), .val (.int (p2 &&& (3 : Int32))), .val (.int (1 : Int32)), .val (.int (0 : Int32)), .unset, .unset, .unset, .unset] [(.int (3 : Int32)), (.int (0 : Int32))]))
      refine own_go (fun t k => XS.icmpNo X85.here hx rfl (hb hby at_224) rfl (tlt (by decide : (0 : Int32) < (3 : Int32))).2.1 k) ?_
      refine own_go (fun t k => XS.aload X85.here hx rfl (hb hby at_227) rfl rfl  k) ?_
      refine own_go (fun t k => XS.iload X85.here hx rfl (hb hby at_229) rfl  k) ?_
      refine own_caload X85 hx hZ e85 F83 (j := (0 : Int32)) (v := (.int ch3)) ⟨by decide, by decide⟩ rfl (g := (mkF m 231 #[.val (.int p1), .val (.int p2), .val (.int p3), .val (.int p4), .val (.int p5), .val (.ref b1), .val (.ref b9), .val (.ref b18), .val (.ref b28), .val (.ref b39), .val (.int (p2 &&& (3 : Int32))), .val (.int (1 : Int32)), .val (.int (0 : Int32)), .unset, .unset, .unset, .unset] [(.int (0 : Int32)), (.ref b9)])) rfl rfl (hb hby at_231) ?_
      refine own_callS X85 hx hZ (y := (⟨"com/example/profitmine/profitmine/io/FieldsWalkPinLaw", "blank", "(C)Z"⟩ : MethodName)) (W := 0) (argsL := [(.int ch3)]) (rest := []) hown (hw _ (List.mem_of_getElem? (i := 112) rfl)) (hw _ (List.mem_of_getElem? (i := 113) rfl)) (hw _ (List.mem_of_getElem? (i := 3) rfl)) (hw _ (List.mem_of_getElem? (i := 114) rfl)) (by decide) (own_bk (rm_bl l Z a0 hw ch3 h78 n0 ) hZ (hw _ (List.mem_of_getElem? (i := 114) rfl)) (hw _ (List.mem_of_getElem? (i := 3) rfl)) (by decide) (by decide)) e85 (g := (mkF m 232 #[.val (.int p1), .val (.int p2), .val (.int p3), .val (.int p4), .val (.int p5), .val (.ref b1), .val (.ref b9), .val (.ref b18), .val (.ref b28), .val (.ref b39), .val (.int (p2 &&& (3 : Int32))), .val (.int (1 : Int32)), .val (.int (0 : Int32)), .unset, .unset, .unset, .unset] [(.int ch3)])) rfl (by rw [hml]; rfl) (lenOf pd_14 rfl) rfl (by show 2 * 0 + _ ≤ _; exact Nat.le_of_eq rfl) (hb hby at_232) (own_le (Nat.add_le_add_right (Nat.add_le_add_right (Nat.add_le_add_right (Nat.add_le_add_right (Nat.add_le_add_right (Nat.add_le_add_right hc64 0) 0) 0) 0) 0) 0) (by decide)) (own_le (Nat.add_le_add_right (Nat.add_le_add_right (Nat.add_le_add_right (Nat.add_le_add_right (Nat.add_le_add_right (Nat.add_le_add_right hs64 0) 0) 0) 0) 0) 0) (by decide)) (fun v86 T86 h86 L86 X86 e86 q86 => ?_)
      obtain ⟨rfl, M86, s86⟩ := q86
      replace e86 : T86.heap = h78 := e86.trans s86
      have N86 := Fr.app N85 M86
      refine own_go (fun t k => XS.ifYes X86.here hx rfl (pc0 := 235) (pc' := 241) rfl (hb hby at_235) rfl ((if0 _ _).trans (teq hc195).1) (by decide) (by decide) k) ?_
      refine own_go (fun t k => XS.iload X86.here hx rfl (hb hby at_241) rfl  k) ?_
      refine own_go (fun t k => XS.iconst X86.here hx rfl (hb hby at_243) k) ?_
      refine own_go (fun t k => XS.icmpNo X86.here hx rfl (hb hby at_244) rfl (tlt (by decide : (0 : Int32) < (3 : Int32))).2.1 k) ?_
      show own_Run p e below Φ (T86.setTop (mkF m 247 #[.val (.int p1), .val (.int p2), .val (.int p3), .val (.int p4), .val (.int p5), .val (.ref b1), .val (.ref b9), .val (.ref b18), .val (.ref b28), .val (.ref b39), .val (.int (p2 &&& (3 : Int32))), .val (.int (1 : Int32)), .val (.int (0 : Int32)), .unset, .unset, .unset, .unset] []))
      refine own_go (fun t k => XS.aload X86.here hx rfl (hb hby at_247) rfl rfl  k) ?_
      refine own_go (fun t k => XS.iload X86.here hx rfl (hb hby at_249) rfl  k) ?_
      refine own_caload X86 hx hZ e86 F83 (j := (0 : Int32)) (v := (.int ch3)) ⟨by decide, by decide⟩ rfl (g := (mkF m 251 #[.val (.int p1), .val (.int p2), .val (.int p3), .val (.int p4), .val (.int p5), .val (.ref b1), .val (.ref b9), .val (.ref b18), .val (.ref b28), .val (.ref b39), .val (.int (p2 &&& (3 : Int32))), .val (.int (1 : Int32)), .val (.int (0 : Int32)), .unset, .unset, .unset, .unset] [(.int (0 : Int32)), (.ref b9)])) rfl rfl (hb hby at_251) ?_
      refine own_go (fun t k => XS.bipush X86.here hx rfl (hb hby at_252) k) ?_
      by_cases hc254 : ch3 = (35 : Int32)
      · refine own_go (fun t k => XS.icmpYes X86.here hx rfl (pc0 := 254) (pc' := 261) rfl (hb hby at_254) rfl (teq hc254).1 (by decide) (by decide) k) ?_
        refine own_go (fun t k => XS.iconst X86.here hx rfl (hb hby at_261) k) ?_
        refine own_go (fun t k => XS.istore X86.here hx rfl (hb hby at_262) rfl (l' := #[.val (.int p1), .val (.int p2), .val (.int p3), .val (.int p4), .val (.int p5), .val (.ref b1), .val (.ref b9), .val (.ref b18), .val (.ref b28), .val (.ref b39), .val (.int (p2 &&& (3 : Int32))), .val (.int (1 : Int32)), .val (.int (0 : Int32)), .val (.int (0 : Int32)), .unset, .unset, .unset]) rfl k) ?_
        refine own_go (fun t k => XS.iload X86.here hx rfl (hb hby at_264) rfl  k) ?_
        refine own_go (fun t k => XS.ifYes X86.here hx rfl (pc0 := 266) (pc' := 344) rfl (hb hby at_266) rfl ((if0 _ _).trans (teq (rfl : (0 : Int32) = (0 : Int32))).1) (by decide) (by decide) k) ?_
        show own_Run p e below Φ (T86.setTop (mkF m 344 #[.val (.int p1), .val (.int p2), .val (.int p3), .val (.int p4), .val (.int p5), .val (.ref b1), .val (.ref b9), .val (.ref b18), .val (.ref b28), .val (.ref b39), .val (.int (p2 &&& (3 : Int32))), .val (.int (1 : Int32)), .val (.int (0 : Int32)), .val (.int (0 : Int32)), .unset, .unset, .unset] []))
        refine own_go (fun t k => XS.iconst X86.here hx rfl (hb hby at_344) k) ?_
        refine own_go (fun t k => XS.istore X86.here hx rfl (hb hby at_345) rfl (l' := #[.val (.int p1), .val (.int p2), .val (.int p3), .val (.int p4), .val (.int p5), .val (.ref b1), .val (.ref b9), .val (.ref b18), .val (.ref b28), .val (.ref b39), .val (.int (p2 &&& (3 : Int32))), .val (.int (1 : Int32)), .val (.int (0 : Int32)), .val (.int (0 : Int32)), .val (.int (3 : Int32)), .unset, .unset]) rfl k) ?_
        refine own_go (fun t k => XS.iconst X86.here hx rfl (hb hby at_347) k) ?_
        refine own_go (fun t k => XS.istore X86.here hx rfl (hb hby at_348) rfl (l' := #[.val (.int p1), .val (.int p2), .val (.int p3), .val (.int p4), .val (.int p5), .val (.ref b1), .val (.ref b9), .val (.ref b18), .val (.ref b28), .val (.ref b39), .val (.int (p2 &&& (3 : Int32))), .val (.int (1 : Int32)), .val (.int (0 : Int32)), .val (.int (0 : Int32)), .val (.int (3 : Int32)), .val (.int (3 : Int32)), .unset]) rfl k) ?_
        refine own_go (fun t k => XS.aload X86.here hx rfl (hb hby at_350) rfl rfl  k) ?_
        have F87 : Old Z n0 h78 := (F73.keep K78 (allS (Nat.le_trans F40 (Nat.le_of_eq g39.symm)) all0))
        have F88 : Exa Z h78 b28 "java/lang/String" := (F67.keep K78)
        have F89 : Fld Z h78 b28 "java/lang/String" "value" "[B" (.ref t38) := (F68.keep K78 (ninS ne_b28_b39 nin0))
        have F90 : Fld Z h78 b28 "java/lang/String" "coder" "B" (.int 0) := (F69.keep K78 (ninS ne_b28_b39 nin0))
        have F91 : Arv Z h78 t38 kb38 .byte (3 : Int32) [(.int (ch3.toInt8.toInt32)), (.int (ch4.toInt8.toInt32)), (.int (ch5.toInt8.toInt32))] (.int 0) := (F70.keep K78 (ninS ne_t38_b39 nin0))
        refine own_callV X86 hx hZ (y := (⟨"com/example/profitmine/profitmine/io/Fields", "next", "()Z"⟩ : MethodName)) (z := (⟨"com/example/profitmine/profitmine/io/Fields", "next", "()Z"⟩ : MethodName)) (W := 0) (a := b39) (argsL := []) (rest := []) hown (hw _ (List.mem_of_getElem? (i := 57) rfl)) (hw _ (List.mem_of_getElem? (i := 58) rfl)) (notFace_of_selects (args := #[]) (mvT hZ (hw _ (List.mem_of_getElem? (i := 60) rfl)))) (hw _ (List.mem_of_getElem? (i := 60) rfl)) (hw _ (List.mem_of_getElem? (i := 59) rfl)) (by decide) (own_bk (rm_nb l Z a0 hw b39 b28 t38 kb38 ch3 ch4 ch5 G1 G3 (0 : Int32) h78 n0 F80 P78_0 P78_2 P78_3 P78_1 F87 S0 P5 S1 R3 F88 F89 F90 F91 (Nat.le_trans F40 (Nat.le_of_eq g39.symm)) ne_b28_b39 ne_t38_b39 ⟨hch3, hch4, hch5⟩) hZ (hw _ (List.mem_of_getElem? (i := 61) rfl)) (hw _ (List.mem_of_getElem? (i := 36) rfl)) (by decide) (by decide)) e86 F80 (g := (mkF m 352 #[.val (.int p1), .val (.int p2), .val (.int p3), .val (.int p4), .val (.int p5), .val (.ref b1), .val (.ref b9), .val (.ref b18), .val (.ref b28), .val (.ref b39), .val (.int (p2 &&& (3 : Int32))), .val (.int (1 : Int32)), .val (.int (0 : Int32)), .val (.int (0 : Int32)), .val (.int (3 : Int32)), .val (.int (3 : Int32)), .unset] [(.ref b39)])) rfl (by rw [hml]; rfl) (lenOf pd_8 rfl) rfl (by show 2 * 0 + _ ≤ _; exact Nat.le_of_eq rfl) (hb hby at_352) (own_le (Nat.add_le_add_right (Nat.add_le_add_right (Nat.add_le_add_right (Nat.add_le_add_right (Nat.add_le_add_right (Nat.add_le_add_right (Nat.add_le_add_right hc64 0) 0) 0) 0) 0) 0) 0) (by decide)) (own_le (Nat.add_le_add_right (Nat.add_le_add_right (Nat.add_le_add_right (Nat.add_le_add_right (Nat.add_le_add_right (Nat.add_le_add_right (Nat.add_le_add_right hs64 0) 0) 0) 0) 0) 0) 0) (by decide)) (fun v92 T92 h92 L92 X92 e92 q92 => ?_)
        obtain ⟨rfl, M92, K92, P92_0, P92_1, P92_2⟩ := q92
        have N92 := Fr.app N86 M92
        refine own_go (fun t k => XS.istore X92.here hx rfl (hb hby at_355) rfl (l' := #[.val (.int p1), .val (.int p2), .val (.int p3), .val (.int p4), .val (.int p5), .val (.ref b1), .val (.ref b9), .val (.ref b18), .val (.ref b28), .val (.ref b39), .val (.int (p2 &&& (3 : Int32))), .val (.int (1 : Int32)), .val (.int (0 : Int32)), .val (.int (0 : Int32)), .val (.int (3 : Int32)), .val (.int (3 : Int32)), .val (.int (own_fd ch3 ch4 ch5))]) rfl k) ?_
        refine own_go (fun t k => XS.iload X92.here hx rfl (hb hby at_357) rfl  k) ?_
        refine own_go (fun t k => XS.ifNo X92.here hx rfl (hb hby at_359) rfl ((if0 _ _).trans (feq (by decide : ¬ ((1 : Int32) = (0 : Int32)))).1) k) ?_
        show own_Run p e below Φ (T92.setTop (mkF m 362 #[.val (.int p1), .val (.int p2), .val (.int p3), .val (.int p4), .val (.int p5), .val (.ref b1), .val (.ref b9), .val (.ref b18), .val (.ref b28), .val (.ref b39), .val (.int (p2 &&& (3 : Int32))), .val (.int (1 : Int32)), .val (.int (0 : Int32)), .val (.int (0 : Int32)), .val (.int (3 : Int32)), .val (.int (3 : Int32)), .val (.int (own_fd ch3 ch4 ch5))] []))
        refine own_go (fun t k => XS.iload X92.here hx rfl (hb hby at_362) rfl  k) ?_
        refine own_go (fun t k => XS.iload X92.here hx rfl (hb hby at_364) rfl  k) ?_
        have hc366 : (own_fd ch3 ch4 ch5) = (0 : Int32) := (by unfold own_fd; rw [if_pos hc195, if_pos hc254])
        refine own_go (fun t k => XS.icmpNo X92.here hx rfl (hb hby at_366) rfl (teq hc366).2 k) ?_
        refine own_go (fun t k => XS.aload X92.here hx rfl (hb hby at_369) rfl rfl  k) ?_
        have F94 : Exa Z h92 b39 "com/example/profitmine/profitmine/io/Fields" := (F80.keep K92)
        refine own_callV X92 hx hZ (y := (⟨"com/example/profitmine/profitmine/io/Fields", "start", "()I"⟩ : MethodName)) (z := (⟨"com/example/profitmine/profitmine/io/Fields", "start", "()I"⟩ : MethodName)) (W := 0) (a := b39) (argsL := []) (rest := []) hown (hw _ (List.mem_of_getElem? (i := 102) rfl)) (hw _ (List.mem_of_getElem? (i := 103) rfl)) (notFace_of_selects (args := #[]) (mvT hZ (hw _ (List.mem_of_getElem? (i := 105) rfl)))) (hw _ (List.mem_of_getElem? (i := 105) rfl)) (hw _ (List.mem_of_getElem? (i := 104) rfl)) (by decide) (own_bk (rm_gstart l Z a0 hw b39 (own_es ch3 ch4 ch5) h92 n0 P92_1) hZ (hw _ (List.mem_of_getElem? (i := 106) rfl)) (hw _ (List.mem_of_getElem? (i := 36) rfl)) (by decide) (by decide)) e92 F94 (g := (mkF m 371 #[.val (.int p1), .val (.int p2), .val (.int p3), .val (.int p4), .val (.int p5), .val (.ref b1), .val (.ref b9), .val (.ref b18), .val (.ref b28), .val (.ref b39), .val (.int (p2 &&& (3 : Int32))), .val (.int (1 : Int32)), .val (.int (0 : Int32)), .val (.int (0 : Int32)), .val (.int (3 : Int32)), .val (.int (3 : Int32)), .val (.int (own_fd ch3 ch4 ch5))] [(.ref b39)])) rfl (by rw [hml]; rfl) (lenOf pd_9 rfl) rfl (by show 2 * 0 + _ ≤ _; exact Nat.le_of_eq rfl) (hb hby at_371) (own_le (Nat.add_le_add_right (Nat.add_le_add_right (Nat.add_le_add_right (Nat.add_le_add_right (Nat.add_le_add_right (Nat.add_le_add_right (Nat.add_le_add_right (Nat.add_le_add_right hc64 0) 0) 0) 0) 0) 0) 0) 0) (by decide)) (own_le (Nat.add_le_add_right (Nat.add_le_add_right (Nat.add_le_add_right (Nat.add_le_add_right (Nat.add_le_add_right (Nat.add_le_add_right (Nat.add_le_add_right (Nat.add_le_add_right hs64 0) 0) 0) 0) 0) 0) 0) 0) (by decide)) (fun v93 T93 h93 L93 X93 e93 q93 => ?_)
        obtain ⟨rfl, M93, s93⟩ := q93
        replace e93 : T93.heap = h92 := e93.trans s93
        have N93 := Fr.app N92 M93
        refine own_go (fun t k => XS.iload X93.here hx rfl (hb hby at_374) rfl  k) ?_
        have hc376 : (own_es ch3 ch4 ch5) = (3 : Int32) := (by unfold own_es; rw [if_pos hc195, if_pos hc254])
        refine own_go (fun t k => XS.icmpNo X93.here hx rfl (hb hby at_376) rfl (teq hc376).2 k) ?_
        refine own_go (fun t k => XS.aload X93.here hx rfl (hb hby at_379) rfl rfl  k) ?_
        refine own_callV X93 hx hZ (y := (⟨"com/example/profitmine/profitmine/io/Fields", "end", "()I"⟩ : MethodName)) (z := (⟨"com/example/profitmine/profitmine/io/Fields", "end", "()I"⟩ : MethodName)) (W := 0) (a := b39) (argsL := []) (rest := []) hown (hw _ (List.mem_of_getElem? (i := 107) rfl)) (hw _ (List.mem_of_getElem? (i := 108) rfl)) (notFace_of_selects (args := #[]) (mvT hZ (hw _ (List.mem_of_getElem? (i := 110) rfl)))) (hw _ (List.mem_of_getElem? (i := 110) rfl)) (hw _ (List.mem_of_getElem? (i := 109) rfl)) (by decide) (own_bk (rm_gend l Z a0 hw b39 (own_ee ch3 ch4 ch5) h92 n0 P92_2) hZ (hw _ (List.mem_of_getElem? (i := 111) rfl)) (hw _ (List.mem_of_getElem? (i := 36) rfl)) (by decide) (by decide)) e93 F94 (g := (mkF m 381 #[.val (.int p1), .val (.int p2), .val (.int p3), .val (.int p4), .val (.int p5), .val (.ref b1), .val (.ref b9), .val (.ref b18), .val (.ref b28), .val (.ref b39), .val (.int (p2 &&& (3 : Int32))), .val (.int (1 : Int32)), .val (.int (0 : Int32)), .val (.int (0 : Int32)), .val (.int (3 : Int32)), .val (.int (3 : Int32)), .val (.int (own_fd ch3 ch4 ch5))] [(.ref b39)])) rfl (by rw [hml]; rfl) (lenOf pd_9 rfl) rfl (by show 2 * 0 + _ ≤ _; exact Nat.le_of_eq rfl) (hb hby at_381) (own_le (Nat.add_le_add_right (Nat.add_le_add_right (Nat.add_le_add_right (Nat.add_le_add_right (Nat.add_le_add_right (Nat.add_le_add_right (Nat.add_le_add_right (Nat.add_le_add_right (Nat.add_le_add_right hc64 0) 0) 0) 0) 0) 0) 0) 0) 0) (by decide)) (own_le (Nat.add_le_add_right (Nat.add_le_add_right (Nat.add_le_add_right (Nat.add_le_add_right (Nat.add_le_add_right (Nat.add_le_add_right (Nat.add_le_add_right (Nat.add_le_add_right (Nat.add_le_add_right hs64 0) 0) 0) 0) 0) 0) 0) 0) 0) (by decide)) (fun v95 T95 h95 L95 X95 e95 q95 => ?_)
        obtain ⟨rfl, M95, s95⟩ := q95
        replace e95 : T95.heap = h92 := e95.trans s95
        have N95 := Fr.app N93 M95
        show own_Run p e below Φ (T95.setTop (mkF m 384 #[.val (.int p1), .val (.int p2), .val (.int p3), .val (.int p4), .val (.int p5), .val (.ref b1), .val (.ref b9), .val (.ref b18), .val (.ref b28), .val (.ref b39), .val (.int (p2 &&& (3 : Int32))), .val (.int (1 : Int32)), .val (.int (0 : Int32)), .val (.int (0 : Int32)), .val (.int (3 : Int32)), .val (.int (3 : Int32)), .val (.int (own_fd ch3 ch4 ch5))] [(.int (own_ee ch3 ch4 ch5))]))
        refine own_go (fun t k => XS.iload X95.here hx rfl (hb hby at_384) rfl  k) ?_
        have hc386 : (own_ee ch3 ch4 ch5) = (3 : Int32) := (by unfold own_ee; rw [if_pos hc195, if_pos hc254])
        refine own_go (fun t k => XS.icmpNo X95.here hx rfl (hb hby at_386) rfl (teq hc386).2 k) ?_
        refine own_go (fun t k => XS.aload X95.here hx rfl (hb hby at_389) rfl rfl  k) ?_
        refine own_callV X95 hx hZ (y := (⟨"com/example/profitmine/profitmine/io/Fields", "line", "()Ljava/lang/String;"⟩ : MethodName)) (z := (⟨"com/example/profitmine/profitmine/io/Fields", "line", "()Ljava/lang/String;"⟩ : MethodName)) (W := 0) (a := b39) (argsL := []) (rest := []) hown (hw _ (List.mem_of_getElem? (i := 97) rfl)) (hw _ (List.mem_of_getElem? (i := 98) rfl)) (notFace_of_selects (args := #[]) (mvT hZ (hw _ (List.mem_of_getElem? (i := 100) rfl)))) (hw _ (List.mem_of_getElem? (i := 100) rfl)) (hw _ (List.mem_of_getElem? (i := 99) rfl)) (by decide) (own_bk (rm_gline l Z a0 hw b39 b28 h92 n0 P92_0) hZ (hw _ (List.mem_of_getElem? (i := 101) rfl)) (hw _ (List.mem_of_getElem? (i := 36) rfl)) (by decide) (by decide)) e95 F94 (g := (mkF m 391 #[.val (.int p1), .val (.int p2), .val (.int p3), .val (.int p4), .val (.int p5), .val (.ref b1), .val (.ref b9), .val (.ref b18), .val (.ref b28), .val (.ref b39), .val (.int (p2 &&& (3 : Int32))), .val (.int (1 : Int32)), .val (.int (0 : Int32)), .val (.int (0 : Int32)), .val (.int (3 : Int32)), .val (.int (3 : Int32)), .val (.int (own_fd ch3 ch4 ch5))] [(.ref b39)])) rfl (by rw [hml]; rfl) (lenOf pd_15 rfl) rfl (by show 2 * 0 + _ ≤ _; exact Nat.le_of_eq rfl) (hb hby at_391) (own_le (Nat.add_le_add_right (Nat.add_le_add_right (Nat.add_le_add_right (Nat.add_le_add_right (Nat.add_le_add_right (Nat.add_le_add_right (Nat.add_le_add_right (Nat.add_le_add_right (Nat.add_le_add_right (Nat.add_le_add_right hc64 0) 0) 0) 0) 0) 0) 0) 0) 0) 0) (by decide)) (own_le (Nat.add_le_add_right (Nat.add_le_add_right (Nat.add_le_add_right (Nat.add_le_add_right (Nat.add_le_add_right (Nat.add_le_add_right (Nat.add_le_add_right (Nat.add_le_add_right (Nat.add_le_add_right (Nat.add_le_add_right hs64 0) 0) 0) 0) 0) 0) 0) 0) 0) 0) (by decide)) (fun v96 T96 h96 L96 X96 e96 q96 => ?_)
        obtain ⟨rfl, M96, s96⟩ := q96
        replace e96 : T96.heap = h92 := e96.trans s96
        have N96 := Fr.app N95 M96
        refine own_go (fun t k => XS.aload X96.here hx rfl (hb hby at_394) rfl rfl  k) ?_
        refine own_go (fun t k => Jvm.RoadKit.acmp (g := (mkF m 396 #[.val (.int p1), .val (.int p2), .val (.int p3), .val (.int p4), .val (.int p5), .val (.ref b1), .val (.ref b9), .val (.ref b18), .val (.ref b28), .val (.ref b39), .val (.int (p2 &&& (3 : Int32))), .val (.int (1 : Int32)), .val (.int (0 : Int32)), .val (.int (0 : Int32)), .val (.int (3 : Int32)), .val (.int (3 : Int32)), .val (.int (own_fd ch3 ch4 ch5))] [(.ref b28), (.ref b28)])) X96 hx rfl rfl rfl (pc0 := 396) (pc' := 399) (same := true) rfl (hb hby at_396) rfl (decide_eq_true rfl) (by decide) (by decide) k) ?_
        refine own_go (fun t k => XS.iconst X96.here hx rfl (hb hby at_399) k) ?_
        refine own_go (fun t k => XS.goto X96.here hx rfl (pc0 := 400) (pc' := 404) rfl (hb hby at_400) (by decide) (by decide) k) ?_
        have F97 : ky50 ≤ h92.size := (Nat.le_trans (Nat.le_trans F74 K78.1) K92.1)
        subst hΦ
        exact own_retNW X96 hx (t := .boolean) Bd.returns (by simp) hlk (hb hby at_404) e96 hS50 F97 ⟨rfl, N96⟩ (Nat.le_trans (Nat.add_le_add_right (Nat.add_le_add_right (Nat.add_le_add_right (Nat.add_le_add_right (Nat.add_le_add_right (Nat.add_le_add_right (Nat.add_le_add_right (Nat.add_le_add_right (Nat.add_le_add_right (Nat.add_le_add_right (Nat.add_le_add_right hc64 0) 0) 0) 0) 0) 0) 0) 0) 0) 0) 0) (by decide)) (Nat.le_trans (Nat.add_le_add_right (Nat.add_le_add_right (Nat.add_le_add_right (Nat.add_le_add_right (Nat.add_le_add_right (Nat.add_le_add_right (Nat.add_le_add_right (Nat.add_le_add_right (Nat.add_le_add_right (Nat.add_le_add_right (Nat.add_le_add_right hs64 0) 0) 0) 0) 0) 0) 0) 0) 0) 0) 0) (by decide))
      · refine own_go (fun t k => XS.icmpNo X86.here hx rfl (hb hby at_254) rfl (feq hc254).1 k) ?_
        show own_Run p e below Φ (T86.setTop (mkF m 257 #[.val (.int p1), .val (.int p2), .val (.int p3), .val (.int p4), .val (.int p5), .val (.ref b1), .val (.ref b9), .val (.ref b18), .val (.ref b28), .val (.ref b39), .val (.int (p2 &&& (3 : Int32))), .val (.int (1 : Int32)), .val (.int (0 : Int32)), .unset, .unset, .unset, .unset] []))
        refine own_go (fun t k => XS.iconst X86.here hx rfl (hb hby at_257) k) ?_
        refine own_go (fun t k => XS.goto X86.here hx rfl (pc0 := 258) (pc' := 262) rfl (hb hby at_258) (by decide) (by decide) k) ?_
        refine own_go (fun t k => XS.istore X86.here hx rfl (hb hby at_262) rfl (l' := #[.val (.int p1), .val (.int p2), .val (.int p3), .val (.int p4), .val (.int p5), .val (.ref b1), .val (.ref b9), .val (.ref b18), .val (.ref b28), .val (.ref b39), .val (.int (p2 &&& (3 : Int32))), .val (.int (1 : Int32)), .val (.int (0 : Int32)), .val (.int (1 : Int32)), .unset, .unset, .unset]) rfl k) ?_
        refine own_go (fun t k => XS.iload X86.here hx rfl (hb hby at_264) rfl  k) ?_
        refine own_go (fun t k => XS.ifNo X86.here hx rfl (hb hby at_266) rfl ((if0 _ _).trans (feq (by decide : ¬ ((1 : Int32) = (0 : Int32)))).1) k) ?_
        refine own_go (fun t k => XS.iload X86.here hx rfl (hb hby at_269) rfl  k) ?_
        refine own_go (fun t k => XS.istore X86.here hx rfl (hb hby at_271) rfl (l' := #[.val (.int p1), .val (.int p2), .val (.int p3), .val (.int p4), .val (.int p5), .val (.ref b1), .val (.ref b9), .val (.ref b18), .val (.ref b28), .val (.ref b39), .val (.int (p2 &&& (3 : Int32))), .val (.int (1 : Int32)), .val (.int (0 : Int32)), .val (.int (1 : Int32)), .val (.int (0 : Int32)), .unset, .unset]) rfl k) ?_
        refine own_go (fun t k => XS.iload X86.here hx rfl (hb hby at_273) rfl  k) ?_
        refine own_go (fun t k => XS.istore X86.here hx rfl (hb hby at_275) rfl (l' := #[.val (.int p1), .val (.int p2), .val (.int p3), .val (.int p4), .val (.int p5), .val (.ref b1), .val (.ref b9), .val (.ref b18), .val (.ref b28), .val (.ref b39), .val (.int (p2 &&& (3 : Int32))), .val (.int (1 : Int32)), .val (.int (0 : Int32)), .val (.int (1 : Int32)), .val (.int (0 : Int32)), .unset, .val (.int (0 : Int32))]) rfl k) ?_
        show own_Run p e below Φ (T86.setTop (mkF m 277 #[.val (.int p1), .val (.int p2), .val (.int p3), .val (.int p4), .val (.int p5), .val (.ref b1), .val (.ref b9), .val (.ref b18), .val (.ref b28), .val (.ref b39), .val (.int (p2 &&& (3 : Int32))), .val (.int (1 : Int32)), .val (.int (0 : Int32)), .val (.int (1 : Int32)), .val (.int (0 : Int32)), .unset, .val (.int (0 : Int32))] []))
        refine own_go (fun t k => XS.iload X86.here hx rfl (hb hby at_277) rfl  k) ?_
        refine own_go (fun t k => XS.iconst X86.here hx rfl (hb hby at_279) k) ?_
        refine own_go (fun t k => XS.icmpNo X86.here hx rfl (hb hby at_280) rfl (tlt (by decide : (0 : Int32) < (3 : Int32))).2.1 k) ?_
        refine own_go (fun t k => XS.aload X86.here hx rfl (hb hby at_283) rfl rfl  k) ?_
        refine own_go (fun t k => XS.iload X86.here hx rfl (hb hby at_285) rfl  k) ?_
        refine own_caload X86 hx hZ e86 F83 (j := (0 : Int32)) (v := (.int ch3)) ⟨by decide, by decide⟩ rfl (g := (mkF m 287 #[.val (.int p1), .val (.int p2), .val (.int p3), .val (.int p4), .val (.int p5), .val (.ref b1), .val (.ref b9), .val (.ref b18), .val (.ref b28), .val (.ref b39), .val (.int (p2 &&& (3 : Int32))), .val (.int (1 : Int32)), .val (.int (0 : Int32)), .val (.int (1 : Int32)), .val (.int (0 : Int32)), .unset, .val (.int (0 : Int32))] [(.int (0 : Int32)), (.ref b9)])) rfl rfl (hb hby at_287) ?_
        refine own_callS X86 hx hZ (y := (⟨"com/example/profitmine/profitmine/io/FieldsWalkPinLaw", "blank", "(C)Z"⟩ : MethodName)) (W := 0) (argsL := [(.int ch3)]) (rest := []) hown (hw _ (List.mem_of_getElem? (i := 112) rfl)) (hw _ (List.mem_of_getElem? (i := 113) rfl)) (hw _ (List.mem_of_getElem? (i := 3) rfl)) (hw _ (List.mem_of_getElem? (i := 114) rfl)) (by decide) (own_bk (rm_bl l Z a0 hw ch3 h78 n0 ) hZ (hw _ (List.mem_of_getElem? (i := 114) rfl)) (hw _ (List.mem_of_getElem? (i := 3) rfl)) (by decide) (by decide)) e86 (g := (mkF m 288 #[.val (.int p1), .val (.int p2), .val (.int p3), .val (.int p4), .val (.int p5), .val (.ref b1), .val (.ref b9), .val (.ref b18), .val (.ref b28), .val (.ref b39), .val (.int (p2 &&& (3 : Int32))), .val (.int (1 : Int32)), .val (.int (0 : Int32)), .val (.int (1 : Int32)), .val (.int (0 : Int32)), .unset, .val (.int (0 : Int32))] [(.int ch3)])) rfl (by rw [hml]; rfl) (lenOf pd_14 rfl) rfl (by show 2 * 0 + _ ≤ _; exact Nat.le_of_eq rfl) (hb hby at_288) (own_le (Nat.add_le_add_right (Nat.add_le_add_right (Nat.add_le_add_right (Nat.add_le_add_right (Nat.add_le_add_right (Nat.add_le_add_right (Nat.add_le_add_right hc64 0) 0) 0) 0) 0) 0) 0) (by decide)) (own_le (Nat.add_le_add_right (Nat.add_le_add_right (Nat.add_le_add_right (Nat.add_le_add_right (Nat.add_le_add_right (Nat.add_le_add_right (Nat.add_le_add_right hs64 0) 0) 0) 0) 0) 0) 0) (by decide)) (fun v98 T98 h98 L98 X98 e98 q98 => ?_)
        obtain ⟨rfl, M98, s98⟩ := q98
        replace e98 : T98.heap = h78 := e98.trans s98
        have N98 := Fr.app N86 M98
        refine own_go (fun t k => XS.ifNo X98.here hx rfl (hb hby at_291) rfl ((if0 _ _).trans (teq hc195).2) k) ?_
        refine own_go (fun t k => XS.iinc X98.here hx rfl (hb hby at_294) rfl (l' := #[.val (.int p1), .val (.int p2), .val (.int p3), .val (.int p4), .val (.int p5), .val (.ref b1), .val (.ref b9), .val (.ref b18), .val (.ref b28), .val (.ref b39), .val (.int (p2 &&& (3 : Int32))), .val (.int (1 : Int32)), .val (.int (0 : Int32)), .val (.int (1 : Int32)), .val (.int (0 : Int32)), .unset, .val (.int ((0 : Int32) + (1 : Int32)))]) rfl k) ?_
        show own_Run p e below Φ (T98.setTop (mkF m 297 #[.val (.int p1), .val (.int p2), .val (.int p3), .val (.int p4), .val (.int p5), .val (.ref b1), .val (.ref b9), .val (.ref b18), .val (.ref b28), .val (.ref b39), .val (.int (p2 &&& (3 : Int32))), .val (.int (1 : Int32)), .val (.int (0 : Int32)), .val (.int (1 : Int32)), .val (.int (0 : Int32)), .unset, .val (.int ((0 : Int32) + (1 : Int32)))] []))
        rw [show ((0 : Int32) + (1 : Int32)) = (1 : Int32) from by decide]
        show own_Run p e below Φ (T98.setTop (mkF m 297 #[.val (.int p1), .val (.int p2), .val (.int p3), .val (.int p4), .val (.int p5), .val (.ref b1), .val (.ref b9), .val (.ref b18), .val (.ref b28), .val (.ref b39), .val (.int (p2 &&& (3 : Int32))), .val (.int (1 : Int32)), .val (.int (0 : Int32)), .val (.int (1 : Int32)), .val (.int (0 : Int32)), .unset, .val (.int (1 : Int32))] []))
        refine own_go (fun t k => XS.iload X98.here hx rfl (hb hby at_297) rfl  k) ?_
        refine own_go (fun t k => XS.iconst X98.here hx rfl (hb hby at_299) k) ?_
        refine own_go (fun t k => XS.icmpNo X98.here hx rfl (hb hby at_300) rfl (tlt (by decide : (1 : Int32) < (3 : Int32))).2.1 k) ?_
        refine own_go (fun t k => XS.aload X98.here hx rfl (hb hby at_303) rfl rfl  k) ?_
        refine own_go (fun t k => XS.iload X98.here hx rfl (hb hby at_305) rfl  k) ?_
        refine own_caload X98 hx hZ e98 F83 (j := (1 : Int32)) (v := (.int ch4)) ⟨by decide, by decide⟩ rfl (g := (mkF m 307 #[.val (.int p1), .val (.int p2), .val (.int p3), .val (.int p4), .val (.int p5), .val (.ref b1), .val (.ref b9), .val (.ref b18), .val (.ref b28), .val (.ref b39), .val (.int (p2 &&& (3 : Int32))), .val (.int (1 : Int32)), .val (.int (0 : Int32)), .val (.int (1 : Int32)), .val (.int (0 : Int32)), .unset, .val (.int (1 : Int32))] [(.int (1 : Int32)), (.ref b9)])) rfl rfl (hb hby at_307) ?_
        refine own_callS X98 hx hZ (y := (⟨"com/example/profitmine/profitmine/io/FieldsWalkPinLaw", "blank", "(C)Z"⟩ : MethodName)) (W := 0) (argsL := [(.int ch4)]) (rest := []) hown (hw _ (List.mem_of_getElem? (i := 112) rfl)) (hw _ (List.mem_of_getElem? (i := 113) rfl)) (hw _ (List.mem_of_getElem? (i := 3) rfl)) (hw _ (List.mem_of_getElem? (i := 114) rfl)) (by decide) (own_bk (rm_bl l Z a0 hw ch4 h78 n0 ) hZ (hw _ (List.mem_of_getElem? (i := 114) rfl)) (hw _ (List.mem_of_getElem? (i := 3) rfl)) (by decide) (by decide)) e98 (g := (mkF m 308 #[.val (.int p1), .val (.int p2), .val (.int p3), .val (.int p4), .val (.int p5), .val (.ref b1), .val (.ref b9), .val (.ref b18), .val (.ref b28), .val (.ref b39), .val (.int (p2 &&& (3 : Int32))), .val (.int (1 : Int32)), .val (.int (0 : Int32)), .val (.int (1 : Int32)), .val (.int (0 : Int32)), .unset, .val (.int (1 : Int32))] [(.int ch4)])) rfl (by rw [hml]; rfl) (lenOf pd_14 rfl) rfl (by show 2 * 0 + _ ≤ _; exact Nat.le_of_eq rfl) (hb hby at_308) (own_le (Nat.add_le_add_right (Nat.add_le_add_right (Nat.add_le_add_right (Nat.add_le_add_right (Nat.add_le_add_right (Nat.add_le_add_right (Nat.add_le_add_right (Nat.add_le_add_right hc64 0) 0) 0) 0) 0) 0) 0) 0) (by decide)) (own_le (Nat.add_le_add_right (Nat.add_le_add_right (Nat.add_le_add_right (Nat.add_le_add_right (Nat.add_le_add_right (Nat.add_le_add_right (Nat.add_le_add_right (Nat.add_le_add_right hs64 0) 0) 0) 0) 0) 0) 0) 0) (by decide)) (fun v99 T99 h99 L99 X99 e99 q99 => ?_)
        obtain ⟨rfl, M99, s99⟩ := q99
        replace e99 : T99.heap = h78 := e99.trans s99
        have N99 := Fr.app N98 M99
        by_cases hc311 : (own_blk ch4) = (0 : Int32)
        · refine own_go (fun t k => XS.ifNo X99.here hx rfl (hb hby at_311) rfl ((if0 _ _).trans (teq hc311).2) k) ?_
          refine own_go (fun t k => XS.iinc X99.here hx rfl (hb hby at_314) rfl (l' := #[.val (.int p1), .val (.int p2), .val (.int p3), .val (.int p4), .val (.int p5), .val (.ref b1), .val (.ref b9), .val (.ref b18), .val (.ref b28), .val (.ref b39), .val (.int (p2 &&& (3 : Int32))), .val (.int (1 : Int32)), .val (.int (0 : Int32)), .val (.int (1 : Int32)), .val (.int (0 : Int32)), .unset, .val (.int ((1 : Int32) + (1 : Int32)))]) rfl k) ?_
          show own_Run p e below Φ (T99.setTop (mkF m 317 #[.val (.int p1), .val (.int p2), .val (.int p3), .val (.int p4), .val (.int p5), .val (.ref b1), .val (.ref b9), .val (.ref b18), .val (.ref b28), .val (.ref b39), .val (.int (p2 &&& (3 : Int32))), .val (.int (1 : Int32)), .val (.int (0 : Int32)), .val (.int (1 : Int32)), .val (.int (0 : Int32)), .unset, .val (.int ((1 : Int32) + (1 : Int32)))] []))
          rw [show ((1 : Int32) + (1 : Int32)) = (2 : Int32) from by decide]
          show own_Run p e below Φ (T99.setTop (mkF m 317 #[.val (.int p1), .val (.int p2), .val (.int p3), .val (.int p4), .val (.int p5), .val (.ref b1), .val (.ref b9), .val (.ref b18), .val (.ref b28), .val (.ref b39), .val (.int (p2 &&& (3 : Int32))), .val (.int (1 : Int32)), .val (.int (0 : Int32)), .val (.int (1 : Int32)), .val (.int (0 : Int32)), .unset, .val (.int (2 : Int32))] []))
          refine own_go (fun t k => XS.iload X99.here hx rfl (hb hby at_317) rfl  k) ?_
          refine own_go (fun t k => XS.iconst X99.here hx rfl (hb hby at_319) k) ?_
          refine own_go (fun t k => XS.icmpNo X99.here hx rfl (hb hby at_320) rfl (tlt (by decide : (2 : Int32) < (3 : Int32))).2.1 k) ?_
          refine own_go (fun t k => XS.aload X99.here hx rfl (hb hby at_323) rfl rfl  k) ?_
          refine own_go (fun t k => XS.iload X99.here hx rfl (hb hby at_325) rfl  k) ?_
          refine own_caload X99 hx hZ e99 F83 (j := (2 : Int32)) (v := (.int ch5)) ⟨by decide, by decide⟩ rfl (g := (mkF m 327 #[.val (.int p1), .val (.int p2), .val (.int p3), .val (.int p4), .val (.int p5), .val (.ref b1), .val (.ref b9), .val (.ref b18), .val (.ref b28), .val (.ref b39), .val (.int (p2 &&& (3 : Int32))), .val (.int (1 : Int32)), .val (.int (0 : Int32)), .val (.int (1 : Int32)), .val (.int (0 : Int32)), .unset, .val (.int (2 : Int32))] [(.int (2 : Int32)), (.ref b9)])) rfl rfl (hb hby at_327) ?_
          refine own_callS X99 hx hZ (y := (⟨"com/example/profitmine/profitmine/io/FieldsWalkPinLaw", "blank", "(C)Z"⟩ : MethodName)) (W := 0) (argsL := [(.int ch5)]) (rest := []) hown (hw _ (List.mem_of_getElem? (i := 112) rfl)) (hw _ (List.mem_of_getElem? (i := 113) rfl)) (hw _ (List.mem_of_getElem? (i := 3) rfl)) (hw _ (List.mem_of_getElem? (i := 114) rfl)) (by decide) (own_bk (rm_bl l Z a0 hw ch5 h78 n0 ) hZ (hw _ (List.mem_of_getElem? (i := 114) rfl)) (hw _ (List.mem_of_getElem? (i := 3) rfl)) (by decide) (by decide)) e99 (g := (mkF m 328 #[.val (.int p1), .val (.int p2), .val (.int p3), .val (.int p4), .val (.int p5), .val (.ref b1), .val (.ref b9), .val (.ref b18), .val (.ref b28), .val (.ref b39), .val (.int (p2 &&& (3 : Int32))), .val (.int (1 : Int32)), .val (.int (0 : Int32)), .val (.int (1 : Int32)), .val (.int (0 : Int32)), .unset, .val (.int (2 : Int32))] [(.int ch5)])) rfl (by rw [hml]; rfl) (lenOf pd_14 rfl) rfl (by show 2 * 0 + _ ≤ _; exact Nat.le_of_eq rfl) (hb hby at_328) (own_le (Nat.add_le_add_right (Nat.add_le_add_right (Nat.add_le_add_right (Nat.add_le_add_right (Nat.add_le_add_right (Nat.add_le_add_right (Nat.add_le_add_right (Nat.add_le_add_right (Nat.add_le_add_right hc64 0) 0) 0) 0) 0) 0) 0) 0) 0) (by decide)) (own_le (Nat.add_le_add_right (Nat.add_le_add_right (Nat.add_le_add_right (Nat.add_le_add_right (Nat.add_le_add_right (Nat.add_le_add_right (Nat.add_le_add_right (Nat.add_le_add_right (Nat.add_le_add_right hs64 0) 0) 0) 0) 0) 0) 0) 0) 0) (by decide)) (fun v100 T100 h100 L100 X100 e100 q100 => ?_)
          obtain ⟨rfl, M100, s100⟩ := q100
          replace e100 : T100.heap = h78 := e100.trans s100
          have N100 := Fr.app N99 M100
          by_cases hc331 : (own_blk ch5) = (0 : Int32)
          · refine own_go (fun t k => XS.ifNo X100.here hx rfl (hb hby at_331) rfl ((if0 _ _).trans (teq hc331).2) k) ?_
            refine own_go (fun t k => XS.iinc X100.here hx rfl (hb hby at_334) rfl (l' := #[.val (.int p1), .val (.int p2), .val (.int p3), .val (.int p4), .val (.int p5), .val (.ref b1), .val (.ref b9), .val (.ref b18), .val (.ref b28), .val (.ref b39), .val (.int (p2 &&& (3 : Int32))), .val (.int (1 : Int32)), .val (.int (0 : Int32)), .val (.int (1 : Int32)), .val (.int (0 : Int32)), .unset, .val (.int ((2 : Int32) + (1 : Int32)))]) rfl k) ?_
            show own_Run p e below Φ (T100.setTop (mkF m 337 #[.val (.int p1), .val (.int p2), .val (.int p3), .val (.int p4), .val (.int p5), .val (.ref b1), .val (.ref b9), .val (.ref b18), .val (.ref b28), .val (.ref b39), .val (.int (p2 &&& (3 : Int32))), .val (.int (1 : Int32)), .val (.int (0 : Int32)), .val (.int (1 : Int32)), .val (.int (0 : Int32)), .unset, .val (.int ((2 : Int32) + (1 : Int32)))] []))
            rw [show ((2 : Int32) + (1 : Int32)) = (3 : Int32) from by decide]
            show own_Run p e below Φ (T100.setTop (mkF m 337 #[.val (.int p1), .val (.int p2), .val (.int p3), .val (.int p4), .val (.int p5), .val (.ref b1), .val (.ref b9), .val (.ref b18), .val (.ref b28), .val (.ref b39), .val (.int (p2 &&& (3 : Int32))), .val (.int (1 : Int32)), .val (.int (0 : Int32)), .val (.int (1 : Int32)), .val (.int (0 : Int32)), .unset, .val (.int (3 : Int32))] []))
            refine own_go (fun t k => XS.iload X100.here hx rfl (hb hby at_337) rfl  k) ?_
            refine own_go (fun t k => XS.istore X100.here hx rfl (hb hby at_339) rfl (l' := #[.val (.int p1), .val (.int p2), .val (.int p3), .val (.int p4), .val (.int p5), .val (.ref b1), .val (.ref b9), .val (.ref b18), .val (.ref b28), .val (.ref b39), .val (.int (p2 &&& (3 : Int32))), .val (.int (1 : Int32)), .val (.int (0 : Int32)), .val (.int (1 : Int32)), .val (.int (0 : Int32)), .val (.int (3 : Int32)), .val (.int (3 : Int32))]) rfl k) ?_
            refine own_go (fun t k => XS.goto X100.here hx rfl (pc0 := 341) (pc' := 350) rfl (hb hby at_341) (by decide) (by decide) k) ?_
            refine own_go (fun t k => XS.aload X100.here hx rfl (hb hby at_350) rfl rfl  k) ?_
            have F101 : Old Z n0 h78 := (F73.keep K78 (allS (Nat.le_trans F40 (Nat.le_of_eq g39.symm)) all0))
            have F102 : Exa Z h78 b28 "java/lang/String" := (F67.keep K78)
            have F103 : Fld Z h78 b28 "java/lang/String" "value" "[B" (.ref t38) := (F68.keep K78 (ninS ne_b28_b39 nin0))
            have F104 : Fld Z h78 b28 "java/lang/String" "coder" "B" (.int 0) := (F69.keep K78 (ninS ne_b28_b39 nin0))
            have F105 : Arv Z h78 t38 kb38 .byte (3 : Int32) [(.int (ch3.toInt8.toInt32)), (.int (ch4.toInt8.toInt32)), (.int (ch5.toInt8.toInt32))] (.int 0) := (F70.keep K78 (ninS ne_t38_b39 nin0))
            refine own_callV X100 hx hZ (y := (⟨"com/example/profitmine/profitmine/io/Fields", "next", "()Z"⟩ : MethodName)) (z := (⟨"com/example/profitmine/profitmine/io/Fields", "next", "()Z"⟩ : MethodName)) (W := 0) (a := b39) (argsL := []) (rest := []) hown (hw _ (List.mem_of_getElem? (i := 57) rfl)) (hw _ (List.mem_of_getElem? (i := 58) rfl)) (notFace_of_selects (args := #[]) (mvT hZ (hw _ (List.mem_of_getElem? (i := 60) rfl)))) (hw _ (List.mem_of_getElem? (i := 60) rfl)) (hw _ (List.mem_of_getElem? (i := 59) rfl)) (by decide) (own_bk (rm_nb l Z a0 hw b39 b28 t38 kb38 ch3 ch4 ch5 G1 G3 (0 : Int32) h78 n0 F80 P78_0 P78_2 P78_3 P78_1 F101 S0 P5 S1 R3 F102 F103 F104 F105 (Nat.le_trans F40 (Nat.le_of_eq g39.symm)) ne_b28_b39 ne_t38_b39 ⟨hch3, hch4, hch5⟩) hZ (hw _ (List.mem_of_getElem? (i := 61) rfl)) (hw _ (List.mem_of_getElem? (i := 36) rfl)) (by decide) (by decide)) e100 F80 (g := (mkF m 352 #[.val (.int p1), .val (.int p2), .val (.int p3), .val (.int p4), .val (.int p5), .val (.ref b1), .val (.ref b9), .val (.ref b18), .val (.ref b28), .val (.ref b39), .val (.int (p2 &&& (3 : Int32))), .val (.int (1 : Int32)), .val (.int (0 : Int32)), .val (.int (1 : Int32)), .val (.int (0 : Int32)), .val (.int (3 : Int32)), .val (.int (3 : Int32))] [(.ref b39)])) rfl (by rw [hml]; rfl) (lenOf pd_8 rfl) rfl (by show 2 * 0 + _ ≤ _; exact Nat.le_of_eq rfl) (hb hby at_352) (own_le (Nat.add_le_add_right (Nat.add_le_add_right (Nat.add_le_add_right (Nat.add_le_add_right (Nat.add_le_add_right (Nat.add_le_add_right (Nat.add_le_add_right (Nat.add_le_add_right (Nat.add_le_add_right (Nat.add_le_add_right hc64 0) 0) 0) 0) 0) 0) 0) 0) 0) 0) (by decide)) (own_le (Nat.add_le_add_right (Nat.add_le_add_right (Nat.add_le_add_right (Nat.add_le_add_right (Nat.add_le_add_right (Nat.add_le_add_right (Nat.add_le_add_right (Nat.add_le_add_right (Nat.add_le_add_right (Nat.add_le_add_right hs64 0) 0) 0) 0) 0) 0) 0) 0) 0) 0) (by decide)) (fun v106 T106 h106 L106 X106 e106 q106 => ?_)
            obtain ⟨rfl, M106, K106, P106_0, P106_1, P106_2⟩ := q106
            have N106 := Fr.app N100 M106
            refine own_go (fun t k => XS.istore X106.here hx rfl (hb hby at_355) rfl (l' := #[.val (.int p1), .val (.int p2), .val (.int p3), .val (.int p4), .val (.int p5), .val (.ref b1), .val (.ref b9), .val (.ref b18), .val (.ref b28), .val (.ref b39), .val (.int (p2 &&& (3 : Int32))), .val (.int (1 : Int32)), .val (.int (0 : Int32)), .val (.int (1 : Int32)), .val (.int (0 : Int32)), .val (.int (3 : Int32)), .val (.int (own_fd ch3 ch4 ch5))]) rfl k) ?_
            refine own_go (fun t k => XS.iload X106.here hx rfl (hb hby at_357) rfl  k) ?_
            refine own_go (fun t k => XS.ifNo X106.here hx rfl (hb hby at_359) rfl ((if0 _ _).trans (feq (by decide : ¬ ((1 : Int32) = (0 : Int32)))).1) k) ?_
            refine own_go (fun t k => XS.iload X106.here hx rfl (hb hby at_362) rfl  k) ?_
            show own_Run p e below Φ (T106.setTop (mkF m 364 #[.val (.int p1), .val (.int p2), .val (.int p3), .val (.int p4), .val (.int p5), .val (.ref b1), .val (.ref b9), .val (.ref b18), .val (.ref b28), .val (.ref b39), .val (.int (p2 &&& (3 : Int32))), .val (.int (1 : Int32)), .val (.int (0 : Int32)), .val (.int (1 : Int32)), .val (.int (0 : Int32)), .val (.int (3 : Int32)), .val (.int (own_fd ch3 ch4 ch5))] [(.int (own_fd ch3 ch4 ch5))]))
            refine own_go (fun t k => XS.iload X106.here hx rfl (hb hby at_364) rfl  k) ?_
            have hc366 : (own_fd ch3 ch4 ch5) = (1 : Int32) := (by unfold own_fd; rw [if_pos hc195, if_neg hc254])
            refine own_go (fun t k => XS.icmpNo X106.here hx rfl (hb hby at_366) rfl (teq hc366).2 k) ?_
            refine own_go (fun t k => XS.aload X106.here hx rfl (hb hby at_369) rfl rfl  k) ?_
            have F108 : Exa Z h106 b39 "com/example/profitmine/profitmine/io/Fields" := (F80.keep K106)
            refine own_callV X106 hx hZ (y := (⟨"com/example/profitmine/profitmine/io/Fields", "start", "()I"⟩ : MethodName)) (z := (⟨"com/example/profitmine/profitmine/io/Fields", "start", "()I"⟩ : MethodName)) (W := 0) (a := b39) (argsL := []) (rest := []) hown (hw _ (List.mem_of_getElem? (i := 102) rfl)) (hw _ (List.mem_of_getElem? (i := 103) rfl)) (notFace_of_selects (args := #[]) (mvT hZ (hw _ (List.mem_of_getElem? (i := 105) rfl)))) (hw _ (List.mem_of_getElem? (i := 105) rfl)) (hw _ (List.mem_of_getElem? (i := 104) rfl)) (by decide) (own_bk (rm_gstart l Z a0 hw b39 (own_es ch3 ch4 ch5) h106 n0 P106_1) hZ (hw _ (List.mem_of_getElem? (i := 106) rfl)) (hw _ (List.mem_of_getElem? (i := 36) rfl)) (by decide) (by decide)) e106 F108 (g := (mkF m 371 #[.val (.int p1), .val (.int p2), .val (.int p3), .val (.int p4), .val (.int p5), .val (.ref b1), .val (.ref b9), .val (.ref b18), .val (.ref b28), .val (.ref b39), .val (.int (p2 &&& (3 : Int32))), .val (.int (1 : Int32)), .val (.int (0 : Int32)), .val (.int (1 : Int32)), .val (.int (0 : Int32)), .val (.int (3 : Int32)), .val (.int (own_fd ch3 ch4 ch5))] [(.ref b39)])) rfl (by rw [hml]; rfl) (lenOf pd_9 rfl) rfl (by show 2 * 0 + _ ≤ _; exact Nat.le_of_eq rfl) (hb hby at_371) (own_le (Nat.add_le_add_right (Nat.add_le_add_right (Nat.add_le_add_right (Nat.add_le_add_right (Nat.add_le_add_right (Nat.add_le_add_right (Nat.add_le_add_right (Nat.add_le_add_right (Nat.add_le_add_right (Nat.add_le_add_right (Nat.add_le_add_right hc64 0) 0) 0) 0) 0) 0) 0) 0) 0) 0) 0) (by decide)) (own_le (Nat.add_le_add_right (Nat.add_le_add_right (Nat.add_le_add_right (Nat.add_le_add_right (Nat.add_le_add_right (Nat.add_le_add_right (Nat.add_le_add_right (Nat.add_le_add_right (Nat.add_le_add_right (Nat.add_le_add_right (Nat.add_le_add_right hs64 0) 0) 0) 0) 0) 0) 0) 0) 0) 0) 0) (by decide)) (fun v107 T107 h107 L107 X107 e107 q107 => ?_)
            obtain ⟨rfl, M107, s107⟩ := q107
            replace e107 : T107.heap = h106 := e107.trans s107
            have N107 := Fr.app N106 M107
            refine own_go (fun t k => XS.iload X107.here hx rfl (hb hby at_374) rfl  k) ?_
            have hc376 : (own_es ch3 ch4 ch5) = (0 : Int32) := (by unfold own_es; rw [if_pos hc195, if_neg hc254])
            refine own_go (fun t k => XS.icmpNo X107.here hx rfl (hb hby at_376) rfl (teq hc376).2 k) ?_
            refine own_go (fun t k => XS.aload X107.here hx rfl (hb hby at_379) rfl rfl  k) ?_
            refine own_callV X107 hx hZ (y := (⟨"com/example/profitmine/profitmine/io/Fields", "end", "()I"⟩ : MethodName)) (z := (⟨"com/example/profitmine/profitmine/io/Fields", "end", "()I"⟩ : MethodName)) (W := 0) (a := b39) (argsL := []) (rest := []) hown (hw _ (List.mem_of_getElem? (i := 107) rfl)) (hw _ (List.mem_of_getElem? (i := 108) rfl)) (notFace_of_selects (args := #[]) (mvT hZ (hw _ (List.mem_of_getElem? (i := 110) rfl)))) (hw _ (List.mem_of_getElem? (i := 110) rfl)) (hw _ (List.mem_of_getElem? (i := 109) rfl)) (by decide) (own_bk (rm_gend l Z a0 hw b39 (own_ee ch3 ch4 ch5) h106 n0 P106_2) hZ (hw _ (List.mem_of_getElem? (i := 111) rfl)) (hw _ (List.mem_of_getElem? (i := 36) rfl)) (by decide) (by decide)) e107 F108 (g := (mkF m 381 #[.val (.int p1), .val (.int p2), .val (.int p3), .val (.int p4), .val (.int p5), .val (.ref b1), .val (.ref b9), .val (.ref b18), .val (.ref b28), .val (.ref b39), .val (.int (p2 &&& (3 : Int32))), .val (.int (1 : Int32)), .val (.int (0 : Int32)), .val (.int (1 : Int32)), .val (.int (0 : Int32)), .val (.int (3 : Int32)), .val (.int (own_fd ch3 ch4 ch5))] [(.ref b39)])) rfl (by rw [hml]; rfl) (lenOf pd_9 rfl) rfl (by show 2 * 0 + _ ≤ _; exact Nat.le_of_eq rfl) (hb hby at_381) (own_le (Nat.add_le_add_right (Nat.add_le_add_right (Nat.add_le_add_right (Nat.add_le_add_right (Nat.add_le_add_right (Nat.add_le_add_right (Nat.add_le_add_right (Nat.add_le_add_right (Nat.add_le_add_right (Nat.add_le_add_right (Nat.add_le_add_right (Nat.add_le_add_right hc64 0) 0) 0) 0) 0) 0) 0) 0) 0) 0) 0) 0) (by decide)) (own_le (Nat.add_le_add_right (Nat.add_le_add_right (Nat.add_le_add_right (Nat.add_le_add_right (Nat.add_le_add_right (Nat.add_le_add_right (Nat.add_le_add_right (Nat.add_le_add_right (Nat.add_le_add_right (Nat.add_le_add_right (Nat.add_le_add_right (Nat.add_le_add_right hs64 0) 0) 0) 0) 0) 0) 0) 0) 0) 0) 0) 0) (by decide)) (fun v109 T109 h109 L109 X109 e109 q109 => ?_)
            obtain ⟨rfl, M109, s109⟩ := q109
            replace e109 : T109.heap = h106 := e109.trans s109
            have N109 := Fr.app N107 M109
            refine own_go (fun t k => XS.iload X109.here hx rfl (hb hby at_384) rfl  k) ?_
            show own_Run p e below Φ (T109.setTop (mkF m 386 #[.val (.int p1), .val (.int p2), .val (.int p3), .val (.int p4), .val (.int p5), .val (.ref b1), .val (.ref b9), .val (.ref b18), .val (.ref b28), .val (.ref b39), .val (.int (p2 &&& (3 : Int32))), .val (.int (1 : Int32)), .val (.int (0 : Int32)), .val (.int (1 : Int32)), .val (.int (0 : Int32)), .val (.int (3 : Int32)), .val (.int (own_fd ch3 ch4 ch5))] [(.int (3 : Int32)), (.int (own_ee ch3 ch4 ch5))]))
            have hc386 : (own_ee ch3 ch4 ch5) = (3 : Int32) := (by unfold own_ee; rw [if_pos hc195, if_neg hc254, if_pos hc311, if_pos hc331])
            refine own_go (fun t k => XS.icmpNo X109.here hx rfl (hb hby at_386) rfl (teq hc386).2 k) ?_
            refine own_go (fun t k => XS.aload X109.here hx rfl (hb hby at_389) rfl rfl  k) ?_
            refine own_callV X109 hx hZ (y := (⟨"com/example/profitmine/profitmine/io/Fields", "line", "()Ljava/lang/String;"⟩ : MethodName)) (z := (⟨"com/example/profitmine/profitmine/io/Fields", "line", "()Ljava/lang/String;"⟩ : MethodName)) (W := 0) (a := b39) (argsL := []) (rest := []) hown (hw _ (List.mem_of_getElem? (i := 97) rfl)) (hw _ (List.mem_of_getElem? (i := 98) rfl)) (notFace_of_selects (args := #[]) (mvT hZ (hw _ (List.mem_of_getElem? (i := 100) rfl)))) (hw _ (List.mem_of_getElem? (i := 100) rfl)) (hw _ (List.mem_of_getElem? (i := 99) rfl)) (by decide) (own_bk (rm_gline l Z a0 hw b39 b28 h106 n0 P106_0) hZ (hw _ (List.mem_of_getElem? (i := 101) rfl)) (hw _ (List.mem_of_getElem? (i := 36) rfl)) (by decide) (by decide)) e109 F108 (g := (mkF m 391 #[.val (.int p1), .val (.int p2), .val (.int p3), .val (.int p4), .val (.int p5), .val (.ref b1), .val (.ref b9), .val (.ref b18), .val (.ref b28), .val (.ref b39), .val (.int (p2 &&& (3 : Int32))), .val (.int (1 : Int32)), .val (.int (0 : Int32)), .val (.int (1 : Int32)), .val (.int (0 : Int32)), .val (.int (3 : Int32)), .val (.int (own_fd ch3 ch4 ch5))] [(.ref b39)])) rfl (by rw [hml]; rfl) (lenOf pd_15 rfl) rfl (by show 2 * 0 + _ ≤ _; exact Nat.le_of_eq rfl) (hb hby at_391) (own_le (Nat.add_le_add_right (Nat.add_le_add_right (Nat.add_le_add_right (Nat.add_le_add_right (Nat.add_le_add_right (Nat.add_le_add_right (Nat.add_le_add_right (Nat.add_le_add_right (Nat.add_le_add_right (Nat.add_le_add_right (Nat.add_le_add_right (Nat.add_le_add_right (Nat.add_le_add_right hc64 0) 0) 0) 0) 0) 0) 0) 0) 0) 0) 0) 0) 0) (by decide)) (own_le (Nat.add_le_add_right (Nat.add_le_add_right (Nat.add_le_add_right (Nat.add_le_add_right (Nat.add_le_add_right (Nat.add_le_add_right (Nat.add_le_add_right (Nat.add_le_add_right (Nat.add_le_add_right (Nat.add_le_add_right (Nat.add_le_add_right (Nat.add_le_add_right (Nat.add_le_add_right hs64 0) 0) 0) 0) 0) 0) 0) 0) 0) 0) 0) 0) 0) (by decide)) (fun v110 T110 h110 L110 X110 e110 q110 => ?_)
            obtain ⟨rfl, M110, s110⟩ := q110
            replace e110 : T110.heap = h106 := e110.trans s110
            have N110 := Fr.app N109 M110
            refine own_go (fun t k => XS.aload X110.here hx rfl (hb hby at_394) rfl rfl  k) ?_
            refine own_go (fun t k => Jvm.RoadKit.acmp (g := (mkF m 396 #[.val (.int p1), .val (.int p2), .val (.int p3), .val (.int p4), .val (.int p5), .val (.ref b1), .val (.ref b9), .val (.ref b18), .val (.ref b28), .val (.ref b39), .val (.int (p2 &&& (3 : Int32))), .val (.int (1 : Int32)), .val (.int (0 : Int32)), .val (.int (1 : Int32)), .val (.int (0 : Int32)), .val (.int (3 : Int32)), .val (.int (own_fd ch3 ch4 ch5))] [(.ref b28), (.ref b28)])) X110 hx rfl rfl rfl (pc0 := 396) (pc' := 399) (same := true) rfl (hb hby at_396) rfl (decide_eq_true rfl) (by decide) (by decide) k) ?_
            refine own_go (fun t k => XS.iconst X110.here hx rfl (hb hby at_399) k) ?_
            refine own_go (fun t k => XS.goto X110.here hx rfl (pc0 := 400) (pc' := 404) rfl (hb hby at_400) (by decide) (by decide) k) ?_
            have F111 : ky50 ≤ h106.size := (Nat.le_trans (Nat.le_trans F74 K78.1) K106.1)
            subst hΦ
            exact own_retNW X110 hx (t := .boolean) Bd.returns (by simp) hlk (hb hby at_404) e110 hS50 F111 ⟨rfl, N110⟩ (Nat.le_trans (Nat.add_le_add_right (Nat.add_le_add_right (Nat.add_le_add_right (Nat.add_le_add_right (Nat.add_le_add_right (Nat.add_le_add_right (Nat.add_le_add_right (Nat.add_le_add_right (Nat.add_le_add_right (Nat.add_le_add_right (Nat.add_le_add_right (Nat.add_le_add_right (Nat.add_le_add_right (Nat.add_le_add_right hc64 0) 0) 0) 0) 0) 0) 0) 0) 0) 0) 0) 0) 0) 0) (by decide)) (Nat.le_trans (Nat.add_le_add_right (Nat.add_le_add_right (Nat.add_le_add_right (Nat.add_le_add_right (Nat.add_le_add_right (Nat.add_le_add_right (Nat.add_le_add_right (Nat.add_le_add_right (Nat.add_le_add_right (Nat.add_le_add_right (Nat.add_le_add_right (Nat.add_le_add_right (Nat.add_le_add_right (Nat.add_le_add_right hs64 0) 0) 0) 0) 0) 0) 0) 0) 0) 0) 0) 0) 0) 0) (by decide))
          · refine own_go (fun t k => XS.ifYes X100.here hx rfl (pc0 := 331) (pc' := 337) rfl (hb hby at_331) rfl ((if0 _ _).trans (feq hc331).2) (by decide) (by decide) k) ?_
            refine own_go (fun t k => XS.iload X100.here hx rfl (hb hby at_337) rfl  k) ?_
            show own_Run p e below Φ (T100.setTop (mkF m 339 #[.val (.int p1), .val (.int p2), .val (.int p3), .val (.int p4), .val (.int p5), .val (.ref b1), .val (.ref b9), .val (.ref b18), .val (.ref b28), .val (.ref b39), .val (.int (p2 &&& (3 : Int32))), .val (.int (1 : Int32)), .val (.int (0 : Int32)), .val (.int (1 : Int32)), .val (.int (0 : Int32)), .unset, .val (.int (2 : Int32))] [(.int (2 : Int32))]))
            refine own_go (fun t k => XS.istore X100.here hx rfl (hb hby at_339) rfl (l' := #[.val (.int p1), .val (.int p2), .val (.int p3), .val (.int p4), .val (.int p5), .val (.ref b1), .val (.ref b9), .val (.ref b18), .val (.ref b28), .val (.ref b39), .val (.int (p2 &&& (3 : Int32))), .val (.int (1 : Int32)), .val (.int (0 : Int32)), .val (.int (1 : Int32)), .val (.int (0 : Int32)), .val (.int (2 : Int32)), .val (.int (2 : Int32))]) rfl k) ?_
            refine own_go (fun t k => XS.goto X100.here hx rfl (pc0 := 341) (pc' := 350) rfl (hb hby at_341) (by decide) (by decide) k) ?_
            refine own_go (fun t k => XS.aload X100.here hx rfl (hb hby at_350) rfl rfl  k) ?_
            have F112 : Old Z n0 h78 := (F73.keep K78 (allS (Nat.le_trans F40 (Nat.le_of_eq g39.symm)) all0))
            have F113 : Exa Z h78 b28 "java/lang/String" := (F67.keep K78)
            have F114 : Fld Z h78 b28 "java/lang/String" "value" "[B" (.ref t38) := (F68.keep K78 (ninS ne_b28_b39 nin0))
            have F115 : Fld Z h78 b28 "java/lang/String" "coder" "B" (.int 0) := (F69.keep K78 (ninS ne_b28_b39 nin0))
            have F116 : Arv Z h78 t38 kb38 .byte (3 : Int32) [(.int (ch3.toInt8.toInt32)), (.int (ch4.toInt8.toInt32)), (.int (ch5.toInt8.toInt32))] (.int 0) := (F70.keep K78 (ninS ne_t38_b39 nin0))
            refine own_callV X100 hx hZ (y := (⟨"com/example/profitmine/profitmine/io/Fields", "next", "()Z"⟩ : MethodName)) (z := (⟨"com/example/profitmine/profitmine/io/Fields", "next", "()Z"⟩ : MethodName)) (W := 0) (a := b39) (argsL := []) (rest := []) hown (hw _ (List.mem_of_getElem? (i := 57) rfl)) (hw _ (List.mem_of_getElem? (i := 58) rfl)) (notFace_of_selects (args := #[]) (mvT hZ (hw _ (List.mem_of_getElem? (i := 60) rfl)))) (hw _ (List.mem_of_getElem? (i := 60) rfl)) (hw _ (List.mem_of_getElem? (i := 59) rfl)) (by decide) (own_bk (rm_nb l Z a0 hw b39 b28 t38 kb38 ch3 ch4 ch5 G1 G3 (0 : Int32) h78 n0 F80 P78_0 P78_2 P78_3 P78_1 F112 S0 P5 S1 R3 F113 F114 F115 F116 (Nat.le_trans F40 (Nat.le_of_eq g39.symm)) ne_b28_b39 ne_t38_b39 ⟨hch3, hch4, hch5⟩) hZ (hw _ (List.mem_of_getElem? (i := 61) rfl)) (hw _ (List.mem_of_getElem? (i := 36) rfl)) (by decide) (by decide)) e100 F80 (g := (mkF m 352 #[.val (.int p1), .val (.int p2), .val (.int p3), .val (.int p4), .val (.int p5), .val (.ref b1), .val (.ref b9), .val (.ref b18), .val (.ref b28), .val (.ref b39), .val (.int (p2 &&& (3 : Int32))), .val (.int (1 : Int32)), .val (.int (0 : Int32)), .val (.int (1 : Int32)), .val (.int (0 : Int32)), .val (.int (2 : Int32)), .val (.int (2 : Int32))] [(.ref b39)])) rfl (by rw [hml]; rfl) (lenOf pd_8 rfl) rfl (by show 2 * 0 + _ ≤ _; exact Nat.le_of_eq rfl) (hb hby at_352) (own_le (Nat.add_le_add_right (Nat.add_le_add_right (Nat.add_le_add_right (Nat.add_le_add_right (Nat.add_le_add_right (Nat.add_le_add_right (Nat.add_le_add_right (Nat.add_le_add_right (Nat.add_le_add_right (Nat.add_le_add_right hc64 0) 0) 0) 0) 0) 0) 0) 0) 0) 0) (by decide)) (own_le (Nat.add_le_add_right (Nat.add_le_add_right (Nat.add_le_add_right (Nat.add_le_add_right (Nat.add_le_add_right (Nat.add_le_add_right (Nat.add_le_add_right (Nat.add_le_add_right (Nat.add_le_add_right (Nat.add_le_add_right hs64 0) 0) 0) 0) 0) 0) 0) 0) 0) 0) (by decide)) (fun v117 T117 h117 L117 X117 e117 q117 => ?_)
            obtain ⟨rfl, M117, K117, P117_0, P117_1, P117_2⟩ := q117
            have N117 := Fr.app N100 M117
            refine own_go (fun t k => XS.istore X117.here hx rfl (hb hby at_355) rfl (l' := #[.val (.int p1), .val (.int p2), .val (.int p3), .val (.int p4), .val (.int p5), .val (.ref b1), .val (.ref b9), .val (.ref b18), .val (.ref b28), .val (.ref b39), .val (.int (p2 &&& (3 : Int32))), .val (.int (1 : Int32)), .val (.int (0 : Int32)), .val (.int (1 : Int32)), .val (.int (0 : Int32)), .val (.int (2 : Int32)), .val (.int (own_fd ch3 ch4 ch5))]) rfl k) ?_
            refine own_go (fun t k => XS.iload X117.here hx rfl (hb hby at_357) rfl  k) ?_
            refine own_go (fun t k => XS.ifNo X117.here hx rfl (hb hby at_359) rfl ((if0 _ _).trans (feq (by decide : ¬ ((1 : Int32) = (0 : Int32)))).1) k) ?_
            refine own_go (fun t k => XS.iload X117.here hx rfl (hb hby at_362) rfl  k) ?_
            refine own_go (fun t k => XS.iload X117.here hx rfl (hb hby at_364) rfl  k) ?_
            show own_Run p e below Φ (T117.setTop (mkF m 366 #[.val (.int p1), .val (.int p2), .val (.int p3), .val (.int p4), .val (.int p5), .val (.ref b1), .val (.ref b9), .val (.ref b18), .val (.ref b28), .val (.ref b39), .val (.int (p2 &&& (3 : Int32))), .val (.int (1 : Int32)), .val (.int (0 : Int32)), .val (.int (1 : Int32)), .val (.int (0 : Int32)), .val (.int (2 : Int32)), .val (.int (own_fd ch3 ch4 ch5))] [(.int (1 : Int32)), (.int (own_fd ch3 ch4 ch5))]))
            have hc366 : (own_fd ch3 ch4 ch5) = (1 : Int32) := (by unfold own_fd; rw [if_pos hc195, if_neg hc254])
            refine own_go (fun t k => XS.icmpNo X117.here hx rfl (hb hby at_366) rfl (teq hc366).2 k) ?_
            refine own_go (fun t k => XS.aload X117.here hx rfl (hb hby at_369) rfl rfl  k) ?_
            have F119 : Exa Z h117 b39 "com/example/profitmine/profitmine/io/Fields" := (F80.keep K117)
            refine own_callV X117 hx hZ (y := (⟨"com/example/profitmine/profitmine/io/Fields", "start", "()I"⟩ : MethodName)) (z := (⟨"com/example/profitmine/profitmine/io/Fields", "start", "()I"⟩ : MethodName)) (W := 0) (a := b39) (argsL := []) (rest := []) hown (hw _ (List.mem_of_getElem? (i := 102) rfl)) (hw _ (List.mem_of_getElem? (i := 103) rfl)) (notFace_of_selects (args := #[]) (mvT hZ (hw _ (List.mem_of_getElem? (i := 105) rfl)))) (hw _ (List.mem_of_getElem? (i := 105) rfl)) (hw _ (List.mem_of_getElem? (i := 104) rfl)) (by decide) (own_bk (rm_gstart l Z a0 hw b39 (own_es ch3 ch4 ch5) h117 n0 P117_1) hZ (hw _ (List.mem_of_getElem? (i := 106) rfl)) (hw _ (List.mem_of_getElem? (i := 36) rfl)) (by decide) (by decide)) e117 F119 (g := (mkF m 371 #[.val (.int p1), .val (.int p2), .val (.int p3), .val (.int p4), .val (.int p5), .val (.ref b1), .val (.ref b9), .val (.ref b18), .val (.ref b28), .val (.ref b39), .val (.int (p2 &&& (3 : Int32))), .val (.int (1 : Int32)), .val (.int (0 : Int32)), .val (.int (1 : Int32)), .val (.int (0 : Int32)), .val (.int (2 : Int32)), .val (.int (own_fd ch3 ch4 ch5))] [(.ref b39)])) rfl (by rw [hml]; rfl) (lenOf pd_9 rfl) rfl (by show 2 * 0 + _ ≤ _; exact Nat.le_of_eq rfl) (hb hby at_371) (own_le (Nat.add_le_add_right (Nat.add_le_add_right (Nat.add_le_add_right (Nat.add_le_add_right (Nat.add_le_add_right (Nat.add_le_add_right (Nat.add_le_add_right (Nat.add_le_add_right (Nat.add_le_add_right (Nat.add_le_add_right (Nat.add_le_add_right hc64 0) 0) 0) 0) 0) 0) 0) 0) 0) 0) 0) (by decide)) (own_le (Nat.add_le_add_right (Nat.add_le_add_right (Nat.add_le_add_right (Nat.add_le_add_right (Nat.add_le_add_right (Nat.add_le_add_right (Nat.add_le_add_right (Nat.add_le_add_right (Nat.add_le_add_right (Nat.add_le_add_right (Nat.add_le_add_right hs64 0) 0) 0) 0) 0) 0) 0) 0) 0) 0) 0) (by decide)) (fun v118 T118 h118 L118 X118 e118 q118 => ?_)
            obtain ⟨rfl, M118, s118⟩ := q118
            replace e118 : T118.heap = h117 := e118.trans s118
            have N118 := Fr.app N117 M118
            refine own_go (fun t k => XS.iload X118.here hx rfl (hb hby at_374) rfl  k) ?_
            have hc376 : (own_es ch3 ch4 ch5) = (0 : Int32) := (by unfold own_es; rw [if_pos hc195, if_neg hc254])
            refine own_go (fun t k => XS.icmpNo X118.here hx rfl (hb hby at_376) rfl (teq hc376).2 k) ?_
            refine own_go (fun t k => XS.aload X118.here hx rfl (hb hby at_379) rfl rfl  k) ?_
            refine own_callV X118 hx hZ (y := (⟨"com/example/profitmine/profitmine/io/Fields", "end", "()I"⟩ : MethodName)) (z := (⟨"com/example/profitmine/profitmine/io/Fields", "end", "()I"⟩ : MethodName)) (W := 0) (a := b39) (argsL := []) (rest := []) hown (hw _ (List.mem_of_getElem? (i := 107) rfl)) (hw _ (List.mem_of_getElem? (i := 108) rfl)) (notFace_of_selects (args := #[]) (mvT hZ (hw _ (List.mem_of_getElem? (i := 110) rfl)))) (hw _ (List.mem_of_getElem? (i := 110) rfl)) (hw _ (List.mem_of_getElem? (i := 109) rfl)) (by decide) (own_bk (rm_gend l Z a0 hw b39 (own_ee ch3 ch4 ch5) h117 n0 P117_2) hZ (hw _ (List.mem_of_getElem? (i := 111) rfl)) (hw _ (List.mem_of_getElem? (i := 36) rfl)) (by decide) (by decide)) e118 F119 (g := (mkF m 381 #[.val (.int p1), .val (.int p2), .val (.int p3), .val (.int p4), .val (.int p5), .val (.ref b1), .val (.ref b9), .val (.ref b18), .val (.ref b28), .val (.ref b39), .val (.int (p2 &&& (3 : Int32))), .val (.int (1 : Int32)), .val (.int (0 : Int32)), .val (.int (1 : Int32)), .val (.int (0 : Int32)), .val (.int (2 : Int32)), .val (.int (own_fd ch3 ch4 ch5))] [(.ref b39)])) rfl (by rw [hml]; rfl) (lenOf pd_9 rfl) rfl (by show 2 * 0 + _ ≤ _; exact Nat.le_of_eq rfl) (hb hby at_381) (own_le (Nat.add_le_add_right (Nat.add_le_add_right (Nat.add_le_add_right (Nat.add_le_add_right (Nat.add_le_add_right (Nat.add_le_add_right (Nat.add_le_add_right (Nat.add_le_add_right (Nat.add_le_add_right (Nat.add_le_add_right (Nat.add_le_add_right (Nat.add_le_add_right hc64 0) 0) 0) 0) 0) 0) 0) 0) 0) 0) 0) 0) (by decide)) (own_le (Nat.add_le_add_right (Nat.add_le_add_right (Nat.add_le_add_right (Nat.add_le_add_right (Nat.add_le_add_right (Nat.add_le_add_right (Nat.add_le_add_right (Nat.add_le_add_right (Nat.add_le_add_right (Nat.add_le_add_right (Nat.add_le_add_right (Nat.add_le_add_right hs64 0) 0) 0) 0) 0) 0) 0) 0) 0) 0) 0) 0) (by decide)) (fun v120 T120 h120 L120 X120 e120 q120 => ?_)
            obtain ⟨rfl, M120, s120⟩ := q120
            replace e120 : T120.heap = h117 := e120.trans s120
            have N120 := Fr.app N118 M120
            refine own_go (fun t k => XS.iload X120.here hx rfl (hb hby at_384) rfl  k) ?_
            have hc386 : (own_ee ch3 ch4 ch5) = (2 : Int32) := (by unfold own_ee; rw [if_pos hc195, if_neg hc254, if_pos hc311, if_neg hc331])
            refine own_go (fun t k => XS.icmpNo X120.here hx rfl (hb hby at_386) rfl (teq hc386).2 k) ?_
            show own_Run p e below Φ (T120.setTop (mkF m 389 #[.val (.int p1), .val (.int p2), .val (.int p3), .val (.int p4), .val (.int p5), .val (.ref b1), .val (.ref b9), .val (.ref b18), .val (.ref b28), .val (.ref b39), .val (.int (p2 &&& (3 : Int32))), .val (.int (1 : Int32)), .val (.int (0 : Int32)), .val (.int (1 : Int32)), .val (.int (0 : Int32)), .val (.int (2 : Int32)), .val (.int (own_fd ch3 ch4 ch5))] []))
            refine own_go (fun t k => XS.aload X120.here hx rfl (hb hby at_389) rfl rfl  k) ?_
            refine own_callV X120 hx hZ (y := (⟨"com/example/profitmine/profitmine/io/Fields", "line", "()Ljava/lang/String;"⟩ : MethodName)) (z := (⟨"com/example/profitmine/profitmine/io/Fields", "line", "()Ljava/lang/String;"⟩ : MethodName)) (W := 0) (a := b39) (argsL := []) (rest := []) hown (hw _ (List.mem_of_getElem? (i := 97) rfl)) (hw _ (List.mem_of_getElem? (i := 98) rfl)) (notFace_of_selects (args := #[]) (mvT hZ (hw _ (List.mem_of_getElem? (i := 100) rfl)))) (hw _ (List.mem_of_getElem? (i := 100) rfl)) (hw _ (List.mem_of_getElem? (i := 99) rfl)) (by decide) (own_bk (rm_gline l Z a0 hw b39 b28 h117 n0 P117_0) hZ (hw _ (List.mem_of_getElem? (i := 101) rfl)) (hw _ (List.mem_of_getElem? (i := 36) rfl)) (by decide) (by decide)) e120 F119 (g := (mkF m 391 #[.val (.int p1), .val (.int p2), .val (.int p3), .val (.int p4), .val (.int p5), .val (.ref b1), .val (.ref b9), .val (.ref b18), .val (.ref b28), .val (.ref b39), .val (.int (p2 &&& (3 : Int32))), .val (.int (1 : Int32)), .val (.int (0 : Int32)), .val (.int (1 : Int32)), .val (.int (0 : Int32)), .val (.int (2 : Int32)), .val (.int (own_fd ch3 ch4 ch5))] [(.ref b39)])) rfl (by rw [hml]; rfl) (lenOf pd_15 rfl) rfl (by show 2 * 0 + _ ≤ _; exact Nat.le_of_eq rfl) (hb hby at_391) (own_le (Nat.add_le_add_right (Nat.add_le_add_right (Nat.add_le_add_right (Nat.add_le_add_right (Nat.add_le_add_right (Nat.add_le_add_right (Nat.add_le_add_right (Nat.add_le_add_right (Nat.add_le_add_right (Nat.add_le_add_right (Nat.add_le_add_right (Nat.add_le_add_right (Nat.add_le_add_right hc64 0) 0) 0) 0) 0) 0) 0) 0) 0) 0) 0) 0) 0) (by decide)) (own_le (Nat.add_le_add_right (Nat.add_le_add_right (Nat.add_le_add_right (Nat.add_le_add_right (Nat.add_le_add_right (Nat.add_le_add_right (Nat.add_le_add_right (Nat.add_le_add_right (Nat.add_le_add_right (Nat.add_le_add_right (Nat.add_le_add_right (Nat.add_le_add_right (Nat.add_le_add_right hs64 0) 0) 0) 0) 0) 0) 0) 0) 0) 0) 0) 0) 0) (by decide)) (fun v121 T121 h121 L121 X121 e121 q121 => ?_)
            obtain ⟨rfl, M121, s121⟩ := q121
            replace e121 : T121.heap = h117 := e121.trans s121
            have N121 := Fr.app N120 M121
            refine own_go (fun t k => XS.aload X121.here hx rfl (hb hby at_394) rfl rfl  k) ?_
            refine own_go (fun t k => Jvm.RoadKit.acmp (g := (mkF m 396 #[.val (.int p1), .val (.int p2), .val (.int p3), .val (.int p4), .val (.int p5), .val (.ref b1), .val (.ref b9), .val (.ref b18), .val (.ref b28), .val (.ref b39), .val (.int (p2 &&& (3 : Int32))), .val (.int (1 : Int32)), .val (.int (0 : Int32)), .val (.int (1 : Int32)), .val (.int (0 : Int32)), .val (.int (2 : Int32)), .val (.int (own_fd ch3 ch4 ch5))] [(.ref b28), (.ref b28)])) X121 hx rfl rfl rfl (pc0 := 396) (pc' := 399) (same := true) rfl (hb hby at_396) rfl (decide_eq_true rfl) (by decide) (by decide) k) ?_
            refine own_go (fun t k => XS.iconst X121.here hx rfl (hb hby at_399) k) ?_
            refine own_go (fun t k => XS.goto X121.here hx rfl (pc0 := 400) (pc' := 404) rfl (hb hby at_400) (by decide) (by decide) k) ?_
            have F122 : ky50 ≤ h117.size := (Nat.le_trans (Nat.le_trans F74 K78.1) K117.1)
            subst hΦ
            exact own_retNW X121 hx (t := .boolean) Bd.returns (by simp) hlk (hb hby at_404) e121 hS50 F122 ⟨rfl, N121⟩ (Nat.le_trans (Nat.add_le_add_right (Nat.add_le_add_right (Nat.add_le_add_right (Nat.add_le_add_right (Nat.add_le_add_right (Nat.add_le_add_right (Nat.add_le_add_right (Nat.add_le_add_right (Nat.add_le_add_right (Nat.add_le_add_right (Nat.add_le_add_right (Nat.add_le_add_right (Nat.add_le_add_right (Nat.add_le_add_right hc64 0) 0) 0) 0) 0) 0) 0) 0) 0) 0) 0) 0) 0) 0) (by decide)) (Nat.le_trans (Nat.add_le_add_right (Nat.add_le_add_right (Nat.add_le_add_right (Nat.add_le_add_right (Nat.add_le_add_right (Nat.add_le_add_right (Nat.add_le_add_right (Nat.add_le_add_right (Nat.add_le_add_right (Nat.add_le_add_right (Nat.add_le_add_right (Nat.add_le_add_right (Nat.add_le_add_right (Nat.add_le_add_right hs64 0) 0) 0) 0) 0) 0) 0) 0) 0) 0) 0) 0) 0) 0) (by decide))
        · refine own_go (fun t k => XS.ifYes X99.here hx rfl (pc0 := 311) (pc' := 317) rfl (hb hby at_311) rfl ((if0 _ _).trans (feq hc311).2) (by decide) (by decide) k) ?_
          refine own_go (fun t k => XS.iload X99.here hx rfl (hb hby at_317) rfl  k) ?_
          refine own_go (fun t k => XS.iconst X99.here hx rfl (hb hby at_319) k) ?_
          show own_Run p e below Φ (T99.setTop (mkF m 320 #[.val (.int p1), .val (.int p2), .val (.int p3), .val (.int p4), .val (.int p5), .val (.ref b1), .val (.ref b9), .val (.ref b18), .val (.ref b28), .val (.ref b39), .val (.int (p2 &&& (3 : Int32))), .val (.int (1 : Int32)), .val (.int (0 : Int32)), .val (.int (1 : Int32)), .val (.int (0 : Int32)), .unset, .val (.int (1 : Int32))] [(.int (3 : Int32)), (.int (1 : Int32))]))
          refine own_go (fun t k => XS.icmpNo X99.here hx rfl (hb hby at_320) rfl (tlt (by decide : (1 : Int32) < (3 : Int32))).2.1 k) ?_
          refine own_go (fun t k => XS.aload X99.here hx rfl (hb hby at_323) rfl rfl  k) ?_
          refine own_go (fun t k => XS.iload X99.here hx rfl (hb hby at_325) rfl  k) ?_
          refine own_caload X99 hx hZ e99 F83 (j := (1 : Int32)) (v := (.int ch4)) ⟨by decide, by decide⟩ rfl (g := (mkF m 327 #[.val (.int p1), .val (.int p2), .val (.int p3), .val (.int p4), .val (.int p5), .val (.ref b1), .val (.ref b9), .val (.ref b18), .val (.ref b28), .val (.ref b39), .val (.int (p2 &&& (3 : Int32))), .val (.int (1 : Int32)), .val (.int (0 : Int32)), .val (.int (1 : Int32)), .val (.int (0 : Int32)), .unset, .val (.int (1 : Int32))] [(.int (1 : Int32)), (.ref b9)])) rfl rfl (hb hby at_327) ?_
          refine own_callS X99 hx hZ (y := (⟨"com/example/profitmine/profitmine/io/FieldsWalkPinLaw", "blank", "(C)Z"⟩ : MethodName)) (W := 0) (argsL := [(.int ch4)]) (rest := []) hown (hw _ (List.mem_of_getElem? (i := 112) rfl)) (hw _ (List.mem_of_getElem? (i := 113) rfl)) (hw _ (List.mem_of_getElem? (i := 3) rfl)) (hw _ (List.mem_of_getElem? (i := 114) rfl)) (by decide) (own_bk (rm_bl l Z a0 hw ch4 h78 n0 ) hZ (hw _ (List.mem_of_getElem? (i := 114) rfl)) (hw _ (List.mem_of_getElem? (i := 3) rfl)) (by decide) (by decide)) e99 (g := (mkF m 328 #[.val (.int p1), .val (.int p2), .val (.int p3), .val (.int p4), .val (.int p5), .val (.ref b1), .val (.ref b9), .val (.ref b18), .val (.ref b28), .val (.ref b39), .val (.int (p2 &&& (3 : Int32))), .val (.int (1 : Int32)), .val (.int (0 : Int32)), .val (.int (1 : Int32)), .val (.int (0 : Int32)), .unset, .val (.int (1 : Int32))] [(.int ch4)])) rfl (by rw [hml]; rfl) (lenOf pd_14 rfl) rfl (by show 2 * 0 + _ ≤ _; exact Nat.le_of_eq rfl) (hb hby at_328) (own_le (Nat.add_le_add_right (Nat.add_le_add_right (Nat.add_le_add_right (Nat.add_le_add_right (Nat.add_le_add_right (Nat.add_le_add_right (Nat.add_le_add_right (Nat.add_le_add_right (Nat.add_le_add_right hc64 0) 0) 0) 0) 0) 0) 0) 0) 0) (by decide)) (own_le (Nat.add_le_add_right (Nat.add_le_add_right (Nat.add_le_add_right (Nat.add_le_add_right (Nat.add_le_add_right (Nat.add_le_add_right (Nat.add_le_add_right (Nat.add_le_add_right (Nat.add_le_add_right hs64 0) 0) 0) 0) 0) 0) 0) 0) 0) (by decide)) (fun v123 T123 h123 L123 X123 e123 q123 => ?_)
          obtain ⟨rfl, M123, s123⟩ := q123
          replace e123 : T123.heap = h78 := e123.trans s123
          have N123 := Fr.app N99 M123
          refine own_go (fun t k => XS.ifYes X123.here hx rfl (pc0 := 331) (pc' := 337) rfl (hb hby at_331) rfl ((if0 _ _).trans (feq hc311).2) (by decide) (by decide) k) ?_
          refine own_go (fun t k => XS.iload X123.here hx rfl (hb hby at_337) rfl  k) ?_
          refine own_go (fun t k => XS.istore X123.here hx rfl (hb hby at_339) rfl (l' := #[.val (.int p1), .val (.int p2), .val (.int p3), .val (.int p4), .val (.int p5), .val (.ref b1), .val (.ref b9), .val (.ref b18), .val (.ref b28), .val (.ref b39), .val (.int (p2 &&& (3 : Int32))), .val (.int (1 : Int32)), .val (.int (0 : Int32)), .val (.int (1 : Int32)), .val (.int (0 : Int32)), .val (.int (1 : Int32)), .val (.int (1 : Int32))]) rfl k) ?_
          refine own_go (fun t k => XS.goto X123.here hx rfl (pc0 := 341) (pc' := 350) rfl (hb hby at_341) (by decide) (by decide) k) ?_
          show own_Run p e below Φ (T123.setTop (mkF m 350 #[.val (.int p1), .val (.int p2), .val (.int p3), .val (.int p4), .val (.int p5), .val (.ref b1), .val (.ref b9), .val (.ref b18), .val (.ref b28), .val (.ref b39), .val (.int (p2 &&& (3 : Int32))), .val (.int (1 : Int32)), .val (.int (0 : Int32)), .val (.int (1 : Int32)), .val (.int (0 : Int32)), .val (.int (1 : Int32)), .val (.int (1 : Int32))] []))
          refine own_go (fun t k => XS.aload X123.here hx rfl (hb hby at_350) rfl rfl  k) ?_
          have F124 : Old Z n0 h78 := (F73.keep K78 (allS (Nat.le_trans F40 (Nat.le_of_eq g39.symm)) all0))
          have F125 : Exa Z h78 b28 "java/lang/String" := (F67.keep K78)
          have F126 : Fld Z h78 b28 "java/lang/String" "value" "[B" (.ref t38) := (F68.keep K78 (ninS ne_b28_b39 nin0))
          have F127 : Fld Z h78 b28 "java/lang/String" "coder" "B" (.int 0) := (F69.keep K78 (ninS ne_b28_b39 nin0))
          have F128 : Arv Z h78 t38 kb38 .byte (3 : Int32) [(.int (ch3.toInt8.toInt32)), (.int (ch4.toInt8.toInt32)), (.int (ch5.toInt8.toInt32))] (.int 0) := (F70.keep K78 (ninS ne_t38_b39 nin0))
          refine own_callV X123 hx hZ (y := (⟨"com/example/profitmine/profitmine/io/Fields", "next", "()Z"⟩ : MethodName)) (z := (⟨"com/example/profitmine/profitmine/io/Fields", "next", "()Z"⟩ : MethodName)) (W := 0) (a := b39) (argsL := []) (rest := []) hown (hw _ (List.mem_of_getElem? (i := 57) rfl)) (hw _ (List.mem_of_getElem? (i := 58) rfl)) (notFace_of_selects (args := #[]) (mvT hZ (hw _ (List.mem_of_getElem? (i := 60) rfl)))) (hw _ (List.mem_of_getElem? (i := 60) rfl)) (hw _ (List.mem_of_getElem? (i := 59) rfl)) (by decide) (own_bk (rm_nb l Z a0 hw b39 b28 t38 kb38 ch3 ch4 ch5 G1 G3 (0 : Int32) h78 n0 F80 P78_0 P78_2 P78_3 P78_1 F124 S0 P5 S1 R3 F125 F126 F127 F128 (Nat.le_trans F40 (Nat.le_of_eq g39.symm)) ne_b28_b39 ne_t38_b39 ⟨hch3, hch4, hch5⟩) hZ (hw _ (List.mem_of_getElem? (i := 61) rfl)) (hw _ (List.mem_of_getElem? (i := 36) rfl)) (by decide) (by decide)) e123 F80 (g := (mkF m 352 #[.val (.int p1), .val (.int p2), .val (.int p3), .val (.int p4), .val (.int p5), .val (.ref b1), .val (.ref b9), .val (.ref b18), .val (.ref b28), .val (.ref b39), .val (.int (p2 &&& (3 : Int32))), .val (.int (1 : Int32)), .val (.int (0 : Int32)), .val (.int (1 : Int32)), .val (.int (0 : Int32)), .val (.int (1 : Int32)), .val (.int (1 : Int32))] [(.ref b39)])) rfl (by rw [hml]; rfl) (lenOf pd_8 rfl) rfl (by show 2 * 0 + _ ≤ _; exact Nat.le_of_eq rfl) (hb hby at_352) (own_le (Nat.add_le_add_right (Nat.add_le_add_right (Nat.add_le_add_right (Nat.add_le_add_right (Nat.add_le_add_right (Nat.add_le_add_right (Nat.add_le_add_right (Nat.add_le_add_right (Nat.add_le_add_right (Nat.add_le_add_right hc64 0) 0) 0) 0) 0) 0) 0) 0) 0) 0) (by decide)) (own_le (Nat.add_le_add_right (Nat.add_le_add_right (Nat.add_le_add_right (Nat.add_le_add_right (Nat.add_le_add_right (Nat.add_le_add_right (Nat.add_le_add_right (Nat.add_le_add_right (Nat.add_le_add_right (Nat.add_le_add_right hs64 0) 0) 0) 0) 0) 0) 0) 0) 0) 0) (by decide)) (fun v129 T129 h129 L129 X129 e129 q129 => ?_)
          obtain ⟨rfl, M129, K129, P129_0, P129_1, P129_2⟩ := q129
          have N129 := Fr.app N123 M129
          refine own_go (fun t k => XS.istore X129.here hx rfl (hb hby at_355) rfl (l' := #[.val (.int p1), .val (.int p2), .val (.int p3), .val (.int p4), .val (.int p5), .val (.ref b1), .val (.ref b9), .val (.ref b18), .val (.ref b28), .val (.ref b39), .val (.int (p2 &&& (3 : Int32))), .val (.int (1 : Int32)), .val (.int (0 : Int32)), .val (.int (1 : Int32)), .val (.int (0 : Int32)), .val (.int (1 : Int32)), .val (.int (own_fd ch3 ch4 ch5))]) rfl k) ?_
          refine own_go (fun t k => XS.iload X129.here hx rfl (hb hby at_357) rfl  k) ?_
          refine own_go (fun t k => XS.ifNo X129.here hx rfl (hb hby at_359) rfl ((if0 _ _).trans (feq (by decide : ¬ ((1 : Int32) = (0 : Int32)))).1) k) ?_
          refine own_go (fun t k => XS.iload X129.here hx rfl (hb hby at_362) rfl  k) ?_
          refine own_go (fun t k => XS.iload X129.here hx rfl (hb hby at_364) rfl  k) ?_
          have hc366 : (own_fd ch3 ch4 ch5) = (1 : Int32) := (by unfold own_fd; rw [if_pos hc195, if_neg hc254])
          refine own_go (fun t k => XS.icmpNo X129.here hx rfl (hb hby at_366) rfl (teq hc366).2 k) ?_
          refine own_go (fun t k => XS.aload X129.here hx rfl (hb hby at_369) rfl rfl  k) ?_
          show own_Run p e below Φ (T129.setTop (mkF m 371 #[.val (.int p1), .val (.int p2), .val (.int p3), .val (.int p4), .val (.int p5), .val (.ref b1), .val (.ref b9), .val (.ref b18), .val (.ref b28), .val (.ref b39), .val (.int (p2 &&& (3 : Int32))), .val (.int (1 : Int32)), .val (.int (0 : Int32)), .val (.int (1 : Int32)), .val (.int (0 : Int32)), .val (.int (1 : Int32)), .val (.int (own_fd ch3 ch4 ch5))] [(.ref b39)]))
          have F131 : Exa Z h129 b39 "com/example/profitmine/profitmine/io/Fields" := (F80.keep K129)
          refine own_callV X129 hx hZ (y := (⟨"com/example/profitmine/profitmine/io/Fields", "start", "()I"⟩ : MethodName)) (z := (⟨"com/example/profitmine/profitmine/io/Fields", "start", "()I"⟩ : MethodName)) (W := 0) (a := b39) (argsL := []) (rest := []) hown (hw _ (List.mem_of_getElem? (i := 102) rfl)) (hw _ (List.mem_of_getElem? (i := 103) rfl)) (notFace_of_selects (args := #[]) (mvT hZ (hw _ (List.mem_of_getElem? (i := 105) rfl)))) (hw _ (List.mem_of_getElem? (i := 105) rfl)) (hw _ (List.mem_of_getElem? (i := 104) rfl)) (by decide) (own_bk (rm_gstart l Z a0 hw b39 (own_es ch3 ch4 ch5) h129 n0 P129_1) hZ (hw _ (List.mem_of_getElem? (i := 106) rfl)) (hw _ (List.mem_of_getElem? (i := 36) rfl)) (by decide) (by decide)) e129 F131 (g := (mkF m 371 #[.val (.int p1), .val (.int p2), .val (.int p3), .val (.int p4), .val (.int p5), .val (.ref b1), .val (.ref b9), .val (.ref b18), .val (.ref b28), .val (.ref b39), .val (.int (p2 &&& (3 : Int32))), .val (.int (1 : Int32)), .val (.int (0 : Int32)), .val (.int (1 : Int32)), .val (.int (0 : Int32)), .val (.int (1 : Int32)), .val (.int (own_fd ch3 ch4 ch5))] [(.ref b39)])) rfl (by rw [hml]; rfl) (lenOf pd_9 rfl) rfl (by show 2 * 0 + _ ≤ _; exact Nat.le_of_eq rfl) (hb hby at_371) (own_le (Nat.add_le_add_right (Nat.add_le_add_right (Nat.add_le_add_right (Nat.add_le_add_right (Nat.add_le_add_right (Nat.add_le_add_right (Nat.add_le_add_right (Nat.add_le_add_right (Nat.add_le_add_right (Nat.add_le_add_right (Nat.add_le_add_right hc64 0) 0) 0) 0) 0) 0) 0) 0) 0) 0) 0) (by decide)) (own_le (Nat.add_le_add_right (Nat.add_le_add_right (Nat.add_le_add_right (Nat.add_le_add_right (Nat.add_le_add_right (Nat.add_le_add_right (Nat.add_le_add_right (Nat.add_le_add_right (Nat.add_le_add_right (Nat.add_le_add_right (Nat.add_le_add_right hs64 0) 0) 0) 0) 0) 0) 0) 0) 0) 0) 0) (by decide)) (fun v130 T130 h130 L130 X130 e130 q130 => ?_)
          obtain ⟨rfl, M130, s130⟩ := q130
          replace e130 : T130.heap = h129 := e130.trans s130
          have N130 := Fr.app N129 M130
          refine own_go (fun t k => XS.iload X130.here hx rfl (hb hby at_374) rfl  k) ?_
          have hc376 : (own_es ch3 ch4 ch5) = (0 : Int32) := (by unfold own_es; rw [if_pos hc195, if_neg hc254])
          refine own_go (fun t k => XS.icmpNo X130.here hx rfl (hb hby at_376) rfl (teq hc376).2 k) ?_
          refine own_go (fun t k => XS.aload X130.here hx rfl (hb hby at_379) rfl rfl  k) ?_
          refine own_callV X130 hx hZ (y := (⟨"com/example/profitmine/profitmine/io/Fields", "end", "()I"⟩ : MethodName)) (z := (⟨"com/example/profitmine/profitmine/io/Fields", "end", "()I"⟩ : MethodName)) (W := 0) (a := b39) (argsL := []) (rest := []) hown (hw _ (List.mem_of_getElem? (i := 107) rfl)) (hw _ (List.mem_of_getElem? (i := 108) rfl)) (notFace_of_selects (args := #[]) (mvT hZ (hw _ (List.mem_of_getElem? (i := 110) rfl)))) (hw _ (List.mem_of_getElem? (i := 110) rfl)) (hw _ (List.mem_of_getElem? (i := 109) rfl)) (by decide) (own_bk (rm_gend l Z a0 hw b39 (own_ee ch3 ch4 ch5) h129 n0 P129_2) hZ (hw _ (List.mem_of_getElem? (i := 111) rfl)) (hw _ (List.mem_of_getElem? (i := 36) rfl)) (by decide) (by decide)) e130 F131 (g := (mkF m 381 #[.val (.int p1), .val (.int p2), .val (.int p3), .val (.int p4), .val (.int p5), .val (.ref b1), .val (.ref b9), .val (.ref b18), .val (.ref b28), .val (.ref b39), .val (.int (p2 &&& (3 : Int32))), .val (.int (1 : Int32)), .val (.int (0 : Int32)), .val (.int (1 : Int32)), .val (.int (0 : Int32)), .val (.int (1 : Int32)), .val (.int (own_fd ch3 ch4 ch5))] [(.ref b39)])) rfl (by rw [hml]; rfl) (lenOf pd_9 rfl) rfl (by show 2 * 0 + _ ≤ _; exact Nat.le_of_eq rfl) (hb hby at_381) (own_le (Nat.add_le_add_right (Nat.add_le_add_right (Nat.add_le_add_right (Nat.add_le_add_right (Nat.add_le_add_right (Nat.add_le_add_right (Nat.add_le_add_right (Nat.add_le_add_right (Nat.add_le_add_right (Nat.add_le_add_right (Nat.add_le_add_right (Nat.add_le_add_right hc64 0) 0) 0) 0) 0) 0) 0) 0) 0) 0) 0) 0) (by decide)) (own_le (Nat.add_le_add_right (Nat.add_le_add_right (Nat.add_le_add_right (Nat.add_le_add_right (Nat.add_le_add_right (Nat.add_le_add_right (Nat.add_le_add_right (Nat.add_le_add_right (Nat.add_le_add_right (Nat.add_le_add_right (Nat.add_le_add_right (Nat.add_le_add_right hs64 0) 0) 0) 0) 0) 0) 0) 0) 0) 0) 0) 0) (by decide)) (fun v132 T132 h132 L132 X132 e132 q132 => ?_)
          obtain ⟨rfl, M132, s132⟩ := q132
          replace e132 : T132.heap = h129 := e132.trans s132
          have N132 := Fr.app N130 M132
          refine own_go (fun t k => XS.iload X132.here hx rfl (hb hby at_384) rfl  k) ?_
          have hc386 : (own_ee ch3 ch4 ch5) = (1 : Int32) := (by unfold own_ee; rw [if_pos hc195, if_neg hc254, if_neg hc311])
          refine own_go (fun t k => XS.icmpNo X132.here hx rfl (hb hby at_386) rfl (teq hc386).2 k) ?_
          refine own_go (fun t k => XS.aload X132.here hx rfl (hb hby at_389) rfl rfl  k) ?_
          refine own_callV X132 hx hZ (y := (⟨"com/example/profitmine/profitmine/io/Fields", "line", "()Ljava/lang/String;"⟩ : MethodName)) (z := (⟨"com/example/profitmine/profitmine/io/Fields", "line", "()Ljava/lang/String;"⟩ : MethodName)) (W := 0) (a := b39) (argsL := []) (rest := []) hown (hw _ (List.mem_of_getElem? (i := 97) rfl)) (hw _ (List.mem_of_getElem? (i := 98) rfl)) (notFace_of_selects (args := #[]) (mvT hZ (hw _ (List.mem_of_getElem? (i := 100) rfl)))) (hw _ (List.mem_of_getElem? (i := 100) rfl)) (hw _ (List.mem_of_getElem? (i := 99) rfl)) (by decide) (own_bk (rm_gline l Z a0 hw b39 b28 h129 n0 P129_0) hZ (hw _ (List.mem_of_getElem? (i := 101) rfl)) (hw _ (List.mem_of_getElem? (i := 36) rfl)) (by decide) (by decide)) e132 F131 (g := (mkF m 391 #[.val (.int p1), .val (.int p2), .val (.int p3), .val (.int p4), .val (.int p5), .val (.ref b1), .val (.ref b9), .val (.ref b18), .val (.ref b28), .val (.ref b39), .val (.int (p2 &&& (3 : Int32))), .val (.int (1 : Int32)), .val (.int (0 : Int32)), .val (.int (1 : Int32)), .val (.int (0 : Int32)), .val (.int (1 : Int32)), .val (.int (own_fd ch3 ch4 ch5))] [(.ref b39)])) rfl (by rw [hml]; rfl) (lenOf pd_15 rfl) rfl (by show 2 * 0 + _ ≤ _; exact Nat.le_of_eq rfl) (hb hby at_391) (own_le (Nat.add_le_add_right (Nat.add_le_add_right (Nat.add_le_add_right (Nat.add_le_add_right (Nat.add_le_add_right (Nat.add_le_add_right (Nat.add_le_add_right (Nat.add_le_add_right (Nat.add_le_add_right (Nat.add_le_add_right (Nat.add_le_add_right (Nat.add_le_add_right (Nat.add_le_add_right hc64 0) 0) 0) 0) 0) 0) 0) 0) 0) 0) 0) 0) 0) (by decide)) (own_le (Nat.add_le_add_right (Nat.add_le_add_right (Nat.add_le_add_right (Nat.add_le_add_right (Nat.add_le_add_right (Nat.add_le_add_right (Nat.add_le_add_right (Nat.add_le_add_right (Nat.add_le_add_right (Nat.add_le_add_right (Nat.add_le_add_right (Nat.add_le_add_right (Nat.add_le_add_right hs64 0) 0) 0) 0) 0) 0) 0) 0) 0) 0) 0) 0) 0) (by decide)) (fun v133 T133 h133 L133 X133 e133 q133 => ?_)
          obtain ⟨rfl, M133, s133⟩ := q133
          replace e133 : T133.heap = h129 := e133.trans s133
          have N133 := Fr.app N132 M133
          show own_Run p e below Φ (T133.setTop (mkF m 394 #[.val (.int p1), .val (.int p2), .val (.int p3), .val (.int p4), .val (.int p5), .val (.ref b1), .val (.ref b9), .val (.ref b18), .val (.ref b28), .val (.ref b39), .val (.int (p2 &&& (3 : Int32))), .val (.int (1 : Int32)), .val (.int (0 : Int32)), .val (.int (1 : Int32)), .val (.int (0 : Int32)), .val (.int (1 : Int32)), .val (.int (own_fd ch3 ch4 ch5))] [(.ref b28)]))
          refine own_go (fun t k => XS.aload X133.here hx rfl (hb hby at_394) rfl rfl  k) ?_
          refine own_go (fun t k => Jvm.RoadKit.acmp (g := (mkF m 396 #[.val (.int p1), .val (.int p2), .val (.int p3), .val (.int p4), .val (.int p5), .val (.ref b1), .val (.ref b9), .val (.ref b18), .val (.ref b28), .val (.ref b39), .val (.int (p2 &&& (3 : Int32))), .val (.int (1 : Int32)), .val (.int (0 : Int32)), .val (.int (1 : Int32)), .val (.int (0 : Int32)), .val (.int (1 : Int32)), .val (.int (own_fd ch3 ch4 ch5))] [(.ref b28), (.ref b28)])) X133 hx rfl rfl rfl (pc0 := 396) (pc' := 399) (same := true) rfl (hb hby at_396) rfl (decide_eq_true rfl) (by decide) (by decide) k) ?_
          refine own_go (fun t k => XS.iconst X133.here hx rfl (hb hby at_399) k) ?_
          refine own_go (fun t k => XS.goto X133.here hx rfl (pc0 := 400) (pc' := 404) rfl (hb hby at_400) (by decide) (by decide) k) ?_
          have F134 : ky50 ≤ h129.size := (Nat.le_trans (Nat.le_trans F74 K78.1) K129.1)
          subst hΦ
          exact own_retNW X133 hx (t := .boolean) Bd.returns (by simp) hlk (hb hby at_404) e133 hS50 F134 ⟨rfl, N133⟩ (Nat.le_trans (Nat.add_le_add_right (Nat.add_le_add_right (Nat.add_le_add_right (Nat.add_le_add_right (Nat.add_le_add_right (Nat.add_le_add_right (Nat.add_le_add_right (Nat.add_le_add_right (Nat.add_le_add_right (Nat.add_le_add_right (Nat.add_le_add_right (Nat.add_le_add_right (Nat.add_le_add_right (Nat.add_le_add_right hc64 0) 0) 0) 0) 0) 0) 0) 0) 0) 0) 0) 0) 0) 0) (by decide)) (Nat.le_trans (Nat.add_le_add_right (Nat.add_le_add_right (Nat.add_le_add_right (Nat.add_le_add_right (Nat.add_le_add_right (Nat.add_le_add_right (Nat.add_le_add_right (Nat.add_le_add_right (Nat.add_le_add_right (Nat.add_le_add_right (Nat.add_le_add_right (Nat.add_le_add_right (Nat.add_le_add_right (Nat.add_le_add_right hs64 0) 0) 0) 0) 0) 0) 0) 0) 0) 0) 0) 0) 0) 0) (by decide))
    · refine own_go (fun t k => XS.ifNo X84.here hx rfl (hb hby at_195) rfl ((if0 _ _).trans (feq hc195).1) k) ?_
      refine own_go (fun t k => XS.iinc X84.here hx rfl (hb hby at_198) rfl (l' := #[.val (.int p1), .val (.int p2), .val (.int p3), .val (.int p4), .val (.int p5), .val (.ref b1), .val (.ref b9), .val (.ref b18), .val (.ref b28), .val (.ref b39), .val (.int (p2 &&& (3 : Int32))), .val (.int (1 : Int32)), .val (.int ((0 : Int32) + (1 : Int32))), .unset, .unset, .unset, .unset]) rfl k) ?_
      show own_Run p e below Φ (T84.setTop (mkF m 201 #[.val (.int p1), .val (.int p2), .val (.int p3), .val (.int p4), .val (.int p5), .val (.ref b1), .val (.ref b9), .val (.ref b18), .val (.ref b28), .val (.ref b39), .val (.int (p2 &&& (3 : Int32))), .val (.int (1 : Int32)), .val (.int ((0 : Int32) + (1 : Int32))), .unset, .unset, .unset, .unset] []))
      rw [show ((0 : Int32) + (1 : Int32)) = (1 : Int32) from by decide]
      show own_Run p e below Φ (T84.setTop (mkF m 201 #[.val (.int p1), .val (.int p2), .val (.int p3), .val (.int p4), .val (.int p5), .val (.ref b1), .val (.ref b9), .val (.ref b18), .val (.ref b28), .val (.ref b39), .val (.int (p2 &&& (3 : Int32))), .val (.int (1 : Int32)), .val (.int (1 : Int32)), .unset, .unset, .unset, .unset] []))
      refine own_go (fun t k => XS.iload X84.here hx rfl (hb hby at_201) rfl  k) ?_
      refine own_go (fun t k => XS.iconst X84.here hx rfl (hb hby at_203) k) ?_
      refine own_go (fun t k => XS.icmpNo X84.here hx rfl (hb hby at_204) rfl (tlt (by decide : (1 : Int32) < (3 : Int32))).2.1 k) ?_
      refine own_go (fun t k => XS.aload X84.here hx rfl (hb hby at_207) rfl rfl  k) ?_
      refine own_go (fun t k => XS.iload X84.here hx rfl (hb hby at_209) rfl  k) ?_
      refine own_caload X84 hx hZ e84 F83 (j := (1 : Int32)) (v := (.int ch4)) ⟨by decide, by decide⟩ rfl (g := (mkF m 211 #[.val (.int p1), .val (.int p2), .val (.int p3), .val (.int p4), .val (.int p5), .val (.ref b1), .val (.ref b9), .val (.ref b18), .val (.ref b28), .val (.ref b39), .val (.int (p2 &&& (3 : Int32))), .val (.int (1 : Int32)), .val (.int (1 : Int32)), .unset, .unset, .unset, .unset] [(.int (1 : Int32)), (.ref b9)])) rfl rfl (hb hby at_211) ?_
      refine own_callS X84 hx hZ (y := (⟨"com/example/profitmine/profitmine/io/FieldsWalkPinLaw", "blank", "(C)Z"⟩ : MethodName)) (W := 0) (argsL := [(.int ch4)]) (rest := []) hown (hw _ (List.mem_of_getElem? (i := 112) rfl)) (hw _ (List.mem_of_getElem? (i := 113) rfl)) (hw _ (List.mem_of_getElem? (i := 3) rfl)) (hw _ (List.mem_of_getElem? (i := 114) rfl)) (by decide) (own_bk (rm_bl l Z a0 hw ch4 h78 n0 ) hZ (hw _ (List.mem_of_getElem? (i := 114) rfl)) (hw _ (List.mem_of_getElem? (i := 3) rfl)) (by decide) (by decide)) e84 (g := (mkF m 212 #[.val (.int p1), .val (.int p2), .val (.int p3), .val (.int p4), .val (.int p5), .val (.ref b1), .val (.ref b9), .val (.ref b18), .val (.ref b28), .val (.ref b39), .val (.int (p2 &&& (3 : Int32))), .val (.int (1 : Int32)), .val (.int (1 : Int32)), .unset, .unset, .unset, .unset] [(.int ch4)])) rfl (by rw [hml]; rfl) (lenOf pd_14 rfl) rfl (by show 2 * 0 + _ ≤ _; exact Nat.le_of_eq rfl) (hb hby at_212) (own_le (Nat.add_le_add_right (Nat.add_le_add_right (Nat.add_le_add_right (Nat.add_le_add_right (Nat.add_le_add_right hc64 0) 0) 0) 0) 0) (by decide)) (own_le (Nat.add_le_add_right (Nat.add_le_add_right (Nat.add_le_add_right (Nat.add_le_add_right (Nat.add_le_add_right hs64 0) 0) 0) 0) 0) (by decide)) (fun v135 T135 h135 L135 X135 e135 q135 => ?_)
      obtain ⟨rfl, M135, s135⟩ := q135
      replace e135 : T135.heap = h78 := e135.trans s135
      have N135 := Fr.app N84 M135
      by_cases hc215 : (own_blk ch4) = (0 : Int32)
      · refine own_go (fun t k => XS.ifYes X135.here hx rfl (pc0 := 215) (pc' := 221) rfl (hb hby at_215) rfl ((if0 _ _).trans (teq hc215).1) (by decide) (by decide) k) ?_
        refine own_go (fun t k => XS.iload X135.here hx rfl (hb hby at_221) rfl  k) ?_
        show own_Run p e below Φ (T135.setTop (mkF m 223 #[.val (.int p1), .val (.int p2), .val (.int p3), .val (.int p4), .val (.int p5), .val (.ref b1), .val (.ref b9), .val (.ref b18), .val (.ref b28), .val (.ref b39), .val (.int (p2 &&& (3 : Int32))), .val (.int (1 : Int32)), .val (.int (1 : Int32)), .unset, .unset, .unset, .unset] [(.int (1 : Int32))]))
        refine own_go (fun t k => XS.iconst X135.here hx rfl (hb hby at_223) k) ?_
        refine own_go (fun t k => XS.icmpNo X135.here hx rfl (hb hby at_224) rfl (tlt (by decide : (1 : Int32) < (3 : Int32))).2.1 k) ?_
        refine own_go (fun t k => XS.aload X135.here hx rfl (hb hby at_227) rfl rfl  k) ?_
        refine own_go (fun t k => XS.iload X135.here hx rfl (hb hby at_229) rfl  k) ?_
        refine own_caload X135 hx hZ e135 F83 (j := (1 : Int32)) (v := (.int ch4)) ⟨by decide, by decide⟩ rfl (g := (mkF m 231 #[.val (.int p1), .val (.int p2), .val (.int p3), .val (.int p4), .val (.int p5), .val (.ref b1), .val (.ref b9), .val (.ref b18), .val (.ref b28), .val (.ref b39), .val (.int (p2 &&& (3 : Int32))), .val (.int (1 : Int32)), .val (.int (1 : Int32)), .unset, .unset, .unset, .unset] [(.int (1 : Int32)), (.ref b9)])) rfl rfl (hb hby at_231) ?_
        refine own_callS X135 hx hZ (y := (⟨"com/example/profitmine/profitmine/io/FieldsWalkPinLaw", "blank", "(C)Z"⟩ : MethodName)) (W := 0) (argsL := [(.int ch4)]) (rest := []) hown (hw _ (List.mem_of_getElem? (i := 112) rfl)) (hw _ (List.mem_of_getElem? (i := 113) rfl)) (hw _ (List.mem_of_getElem? (i := 3) rfl)) (hw _ (List.mem_of_getElem? (i := 114) rfl)) (by decide) (own_bk (rm_bl l Z a0 hw ch4 h78 n0 ) hZ (hw _ (List.mem_of_getElem? (i := 114) rfl)) (hw _ (List.mem_of_getElem? (i := 3) rfl)) (by decide) (by decide)) e135 (g := (mkF m 232 #[.val (.int p1), .val (.int p2), .val (.int p3), .val (.int p4), .val (.int p5), .val (.ref b1), .val (.ref b9), .val (.ref b18), .val (.ref b28), .val (.ref b39), .val (.int (p2 &&& (3 : Int32))), .val (.int (1 : Int32)), .val (.int (1 : Int32)), .unset, .unset, .unset, .unset] [(.int ch4)])) rfl (by rw [hml]; rfl) (lenOf pd_14 rfl) rfl (by show 2 * 0 + _ ≤ _; exact Nat.le_of_eq rfl) (hb hby at_232) (own_le (Nat.add_le_add_right (Nat.add_le_add_right (Nat.add_le_add_right (Nat.add_le_add_right (Nat.add_le_add_right (Nat.add_le_add_right hc64 0) 0) 0) 0) 0) 0) (by decide)) (own_le (Nat.add_le_add_right (Nat.add_le_add_right (Nat.add_le_add_right (Nat.add_le_add_right (Nat.add_le_add_right (Nat.add_le_add_right hs64 0) 0) 0) 0) 0) 0) (by decide)) (fun v136 T136 h136 L136 X136 e136 q136 => ?_)
        obtain ⟨rfl, M136, s136⟩ := q136
        replace e136 : T136.heap = h78 := e136.trans s136
        have N136 := Fr.app N135 M136
        refine own_go (fun t k => XS.ifYes X136.here hx rfl (pc0 := 235) (pc' := 241) rfl (hb hby at_235) rfl ((if0 _ _).trans (teq hc215).1) (by decide) (by decide) k) ?_
        refine own_go (fun t k => XS.iload X136.here hx rfl (hb hby at_241) rfl  k) ?_
        refine own_go (fun t k => XS.iconst X136.here hx rfl (hb hby at_243) k) ?_
        show own_Run p e below Φ (T136.setTop (mkF m 244 #[.val (.int p1), .val (.int p2), .val (.int p3), .val (.int p4), .val (.int p5), .val (.ref b1), .val (.ref b9), .val (.ref b18), .val (.ref b28), .val (.ref b39), .val (.int (p2 &&& (3 : Int32))), .val (.int (1 : Int32)), .val (.int (1 : Int32)), .unset, .unset, .unset, .unset] [(.int (3 : Int32)), (.int (1 : Int32))]))
        refine own_go (fun t k => XS.icmpNo X136.here hx rfl (hb hby at_244) rfl (tlt (by decide : (1 : Int32) < (3 : Int32))).2.1 k) ?_
        refine own_go (fun t k => XS.aload X136.here hx rfl (hb hby at_247) rfl rfl  k) ?_
        refine own_go (fun t k => XS.iload X136.here hx rfl (hb hby at_249) rfl  k) ?_
        refine own_caload X136 hx hZ e136 F83 (j := (1 : Int32)) (v := (.int ch4)) ⟨by decide, by decide⟩ rfl (g := (mkF m 251 #[.val (.int p1), .val (.int p2), .val (.int p3), .val (.int p4), .val (.int p5), .val (.ref b1), .val (.ref b9), .val (.ref b18), .val (.ref b28), .val (.ref b39), .val (.int (p2 &&& (3 : Int32))), .val (.int (1 : Int32)), .val (.int (1 : Int32)), .unset, .unset, .unset, .unset] [(.int (1 : Int32)), (.ref b9)])) rfl rfl (hb hby at_251) ?_
        refine own_go (fun t k => XS.bipush X136.here hx rfl (hb hby at_252) k) ?_
        by_cases hc254 : ch4 = (35 : Int32)
        · refine own_go (fun t k => XS.icmpYes X136.here hx rfl (pc0 := 254) (pc' := 261) rfl (hb hby at_254) rfl (teq hc254).1 (by decide) (by decide) k) ?_
          refine own_go (fun t k => XS.iconst X136.here hx rfl (hb hby at_261) k) ?_
          refine own_go (fun t k => XS.istore X136.here hx rfl (hb hby at_262) rfl (l' := #[.val (.int p1), .val (.int p2), .val (.int p3), .val (.int p4), .val (.int p5), .val (.ref b1), .val (.ref b9), .val (.ref b18), .val (.ref b28), .val (.ref b39), .val (.int (p2 &&& (3 : Int32))), .val (.int (1 : Int32)), .val (.int (1 : Int32)), .val (.int (0 : Int32)), .unset, .unset, .unset]) rfl k) ?_
          refine own_go (fun t k => XS.iload X136.here hx rfl (hb hby at_264) rfl  k) ?_
          show own_Run p e below Φ (T136.setTop (mkF m 266 #[.val (.int p1), .val (.int p2), .val (.int p3), .val (.int p4), .val (.int p5), .val (.ref b1), .val (.ref b9), .val (.ref b18), .val (.ref b28), .val (.ref b39), .val (.int (p2 &&& (3 : Int32))), .val (.int (1 : Int32)), .val (.int (1 : Int32)), .val (.int (0 : Int32)), .unset, .unset, .unset] [(.int (0 : Int32))]))
          refine own_go (fun t k => XS.ifYes X136.here hx rfl (pc0 := 266) (pc' := 344) rfl (hb hby at_266) rfl ((if0 _ _).trans (teq (rfl : (0 : Int32) = (0 : Int32))).1) (by decide) (by decide) k) ?_
          refine own_go (fun t k => XS.iconst X136.here hx rfl (hb hby at_344) k) ?_
          refine own_go (fun t k => XS.istore X136.here hx rfl (hb hby at_345) rfl (l' := #[.val (.int p1), .val (.int p2), .val (.int p3), .val (.int p4), .val (.int p5), .val (.ref b1), .val (.ref b9), .val (.ref b18), .val (.ref b28), .val (.ref b39), .val (.int (p2 &&& (3 : Int32))), .val (.int (1 : Int32)), .val (.int (1 : Int32)), .val (.int (0 : Int32)), .val (.int (3 : Int32)), .unset, .unset]) rfl k) ?_
          refine own_go (fun t k => XS.iconst X136.here hx rfl (hb hby at_347) k) ?_
          refine own_go (fun t k => XS.istore X136.here hx rfl (hb hby at_348) rfl (l' := #[.val (.int p1), .val (.int p2), .val (.int p3), .val (.int p4), .val (.int p5), .val (.ref b1), .val (.ref b9), .val (.ref b18), .val (.ref b28), .val (.ref b39), .val (.int (p2 &&& (3 : Int32))), .val (.int (1 : Int32)), .val (.int (1 : Int32)), .val (.int (0 : Int32)), .val (.int (3 : Int32)), .val (.int (3 : Int32)), .unset]) rfl k) ?_
          refine own_go (fun t k => XS.aload X136.here hx rfl (hb hby at_350) rfl rfl  k) ?_
          have F137 : Old Z n0 h78 := (F73.keep K78 (allS (Nat.le_trans F40 (Nat.le_of_eq g39.symm)) all0))
          have F138 : Exa Z h78 b28 "java/lang/String" := (F67.keep K78)
          have F139 : Fld Z h78 b28 "java/lang/String" "value" "[B" (.ref t38) := (F68.keep K78 (ninS ne_b28_b39 nin0))
          have F140 : Fld Z h78 b28 "java/lang/String" "coder" "B" (.int 0) := (F69.keep K78 (ninS ne_b28_b39 nin0))
          have F141 : Arv Z h78 t38 kb38 .byte (3 : Int32) [(.int (ch3.toInt8.toInt32)), (.int (ch4.toInt8.toInt32)), (.int (ch5.toInt8.toInt32))] (.int 0) := (F70.keep K78 (ninS ne_t38_b39 nin0))
          refine own_callV X136 hx hZ (y := (⟨"com/example/profitmine/profitmine/io/Fields", "next", "()Z"⟩ : MethodName)) (z := (⟨"com/example/profitmine/profitmine/io/Fields", "next", "()Z"⟩ : MethodName)) (W := 0) (a := b39) (argsL := []) (rest := []) hown (hw _ (List.mem_of_getElem? (i := 57) rfl)) (hw _ (List.mem_of_getElem? (i := 58) rfl)) (notFace_of_selects (args := #[]) (mvT hZ (hw _ (List.mem_of_getElem? (i := 60) rfl)))) (hw _ (List.mem_of_getElem? (i := 60) rfl)) (hw _ (List.mem_of_getElem? (i := 59) rfl)) (by decide) (own_bk (rm_nb l Z a0 hw b39 b28 t38 kb38 ch3 ch4 ch5 G1 G3 (0 : Int32) h78 n0 F80 P78_0 P78_2 P78_3 P78_1 F137 S0 P5 S1 R3 F138 F139 F140 F141 (Nat.le_trans F40 (Nat.le_of_eq g39.symm)) ne_b28_b39 ne_t38_b39 ⟨hch3, hch4, hch5⟩) hZ (hw _ (List.mem_of_getElem? (i := 61) rfl)) (hw _ (List.mem_of_getElem? (i := 36) rfl)) (by decide) (by decide)) e136 F80 (g := (mkF m 352 #[.val (.int p1), .val (.int p2), .val (.int p3), .val (.int p4), .val (.int p5), .val (.ref b1), .val (.ref b9), .val (.ref b18), .val (.ref b28), .val (.ref b39), .val (.int (p2 &&& (3 : Int32))), .val (.int (1 : Int32)), .val (.int (1 : Int32)), .val (.int (0 : Int32)), .val (.int (3 : Int32)), .val (.int (3 : Int32)), .unset] [(.ref b39)])) rfl (by rw [hml]; rfl) (lenOf pd_8 rfl) rfl (by show 2 * 0 + _ ≤ _; exact Nat.le_of_eq rfl) (hb hby at_352) (own_le (Nat.add_le_add_right (Nat.add_le_add_right (Nat.add_le_add_right (Nat.add_le_add_right (Nat.add_le_add_right (Nat.add_le_add_right (Nat.add_le_add_right hc64 0) 0) 0) 0) 0) 0) 0) (by decide)) (own_le (Nat.add_le_add_right (Nat.add_le_add_right (Nat.add_le_add_right (Nat.add_le_add_right (Nat.add_le_add_right (Nat.add_le_add_right (Nat.add_le_add_right hs64 0) 0) 0) 0) 0) 0) 0) (by decide)) (fun v142 T142 h142 L142 X142 e142 q142 => ?_)
          obtain ⟨rfl, M142, K142, P142_0, P142_1, P142_2⟩ := q142
          have N142 := Fr.app N136 M142
          refine own_go (fun t k => XS.istore X142.here hx rfl (hb hby at_355) rfl (l' := #[.val (.int p1), .val (.int p2), .val (.int p3), .val (.int p4), .val (.int p5), .val (.ref b1), .val (.ref b9), .val (.ref b18), .val (.ref b28), .val (.ref b39), .val (.int (p2 &&& (3 : Int32))), .val (.int (1 : Int32)), .val (.int (1 : Int32)), .val (.int (0 : Int32)), .val (.int (3 : Int32)), .val (.int (3 : Int32)), .val (.int (own_fd ch3 ch4 ch5))]) rfl k) ?_
          refine own_go (fun t k => XS.iload X142.here hx rfl (hb hby at_357) rfl  k) ?_
          show own_Run p e below Φ (T142.setTop (mkF m 359 #[.val (.int p1), .val (.int p2), .val (.int p3), .val (.int p4), .val (.int p5), .val (.ref b1), .val (.ref b9), .val (.ref b18), .val (.ref b28), .val (.ref b39), .val (.int (p2 &&& (3 : Int32))), .val (.int (1 : Int32)), .val (.int (1 : Int32)), .val (.int (0 : Int32)), .val (.int (3 : Int32)), .val (.int (3 : Int32)), .val (.int (own_fd ch3 ch4 ch5))] [(.int (1 : Int32))]))
          refine own_go (fun t k => XS.ifNo X142.here hx rfl (hb hby at_359) rfl ((if0 _ _).trans (feq (by decide : ¬ ((1 : Int32) = (0 : Int32)))).1) k) ?_
          refine own_go (fun t k => XS.iload X142.here hx rfl (hb hby at_362) rfl  k) ?_
          refine own_go (fun t k => XS.iload X142.here hx rfl (hb hby at_364) rfl  k) ?_
          have hc366 : (own_fd ch3 ch4 ch5) = (0 : Int32) := (by unfold own_fd; rw [if_neg hc195, if_pos hc215, if_pos hc254])
          refine own_go (fun t k => XS.icmpNo X142.here hx rfl (hb hby at_366) rfl (teq hc366).2 k) ?_
          refine own_go (fun t k => XS.aload X142.here hx rfl (hb hby at_369) rfl rfl  k) ?_
          have F144 : Exa Z h142 b39 "com/example/profitmine/profitmine/io/Fields" := (F80.keep K142)
          refine own_callV X142 hx hZ (y := (⟨"com/example/profitmine/profitmine/io/Fields", "start", "()I"⟩ : MethodName)) (z := (⟨"com/example/profitmine/profitmine/io/Fields", "start", "()I"⟩ : MethodName)) (W := 0) (a := b39) (argsL := []) (rest := []) hown (hw _ (List.mem_of_getElem? (i := 102) rfl)) (hw _ (List.mem_of_getElem? (i := 103) rfl)) (notFace_of_selects (args := #[]) (mvT hZ (hw _ (List.mem_of_getElem? (i := 105) rfl)))) (hw _ (List.mem_of_getElem? (i := 105) rfl)) (hw _ (List.mem_of_getElem? (i := 104) rfl)) (by decide) (own_bk (rm_gstart l Z a0 hw b39 (own_es ch3 ch4 ch5) h142 n0 P142_1) hZ (hw _ (List.mem_of_getElem? (i := 106) rfl)) (hw _ (List.mem_of_getElem? (i := 36) rfl)) (by decide) (by decide)) e142 F144 (g := (mkF m 371 #[.val (.int p1), .val (.int p2), .val (.int p3), .val (.int p4), .val (.int p5), .val (.ref b1), .val (.ref b9), .val (.ref b18), .val (.ref b28), .val (.ref b39), .val (.int (p2 &&& (3 : Int32))), .val (.int (1 : Int32)), .val (.int (1 : Int32)), .val (.int (0 : Int32)), .val (.int (3 : Int32)), .val (.int (3 : Int32)), .val (.int (own_fd ch3 ch4 ch5))] [(.ref b39)])) rfl (by rw [hml]; rfl) (lenOf pd_9 rfl) rfl (by show 2 * 0 + _ ≤ _; exact Nat.le_of_eq rfl) (hb hby at_371) (own_le (Nat.add_le_add_right (Nat.add_le_add_right (Nat.add_le_add_right (Nat.add_le_add_right (Nat.add_le_add_right (Nat.add_le_add_right (Nat.add_le_add_right (Nat.add_le_add_right hc64 0) 0) 0) 0) 0) 0) 0) 0) (by decide)) (own_le (Nat.add_le_add_right (Nat.add_le_add_right (Nat.add_le_add_right (Nat.add_le_add_right (Nat.add_le_add_right (Nat.add_le_add_right (Nat.add_le_add_right (Nat.add_le_add_right hs64 0) 0) 0) 0) 0) 0) 0) 0) (by decide)) (fun v143 T143 h143 L143 X143 e143 q143 => ?_)
          obtain ⟨rfl, M143, s143⟩ := q143
          replace e143 : T143.heap = h142 := e143.trans s143
          have N143 := Fr.app N142 M143
          refine own_go (fun t k => XS.iload X143.here hx rfl (hb hby at_374) rfl  k) ?_
          have hc376 : (own_es ch3 ch4 ch5) = (3 : Int32) := (by unfold own_es; rw [if_neg hc195, if_pos hc215, if_pos hc254])
          refine own_go (fun t k => XS.icmpNo X143.here hx rfl (hb hby at_376) rfl (teq hc376).2 k) ?_
          refine own_go (fun t k => XS.aload X143.here hx rfl (hb hby at_379) rfl rfl  k) ?_
          show own_Run p e below Φ (T143.setTop (mkF m 381 #[.val (.int p1), .val (.int p2), .val (.int p3), .val (.int p4), .val (.int p5), .val (.ref b1), .val (.ref b9), .val (.ref b18), .val (.ref b28), .val (.ref b39), .val (.int (p2 &&& (3 : Int32))), .val (.int (1 : Int32)), .val (.int (1 : Int32)), .val (.int (0 : Int32)), .val (.int (3 : Int32)), .val (.int (3 : Int32)), .val (.int (own_fd ch3 ch4 ch5))] [(.ref b39)]))
          refine own_callV X143 hx hZ (y := (⟨"com/example/profitmine/profitmine/io/Fields", "end", "()I"⟩ : MethodName)) (z := (⟨"com/example/profitmine/profitmine/io/Fields", "end", "()I"⟩ : MethodName)) (W := 0) (a := b39) (argsL := []) (rest := []) hown (hw _ (List.mem_of_getElem? (i := 107) rfl)) (hw _ (List.mem_of_getElem? (i := 108) rfl)) (notFace_of_selects (args := #[]) (mvT hZ (hw _ (List.mem_of_getElem? (i := 110) rfl)))) (hw _ (List.mem_of_getElem? (i := 110) rfl)) (hw _ (List.mem_of_getElem? (i := 109) rfl)) (by decide) (own_bk (rm_gend l Z a0 hw b39 (own_ee ch3 ch4 ch5) h142 n0 P142_2) hZ (hw _ (List.mem_of_getElem? (i := 111) rfl)) (hw _ (List.mem_of_getElem? (i := 36) rfl)) (by decide) (by decide)) e143 F144 (g := (mkF m 381 #[.val (.int p1), .val (.int p2), .val (.int p3), .val (.int p4), .val (.int p5), .val (.ref b1), .val (.ref b9), .val (.ref b18), .val (.ref b28), .val (.ref b39), .val (.int (p2 &&& (3 : Int32))), .val (.int (1 : Int32)), .val (.int (1 : Int32)), .val (.int (0 : Int32)), .val (.int (3 : Int32)), .val (.int (3 : Int32)), .val (.int (own_fd ch3 ch4 ch5))] [(.ref b39)])) rfl (by rw [hml]; rfl) (lenOf pd_9 rfl) rfl (by show 2 * 0 + _ ≤ _; exact Nat.le_of_eq rfl) (hb hby at_381) (own_le (Nat.add_le_add_right (Nat.add_le_add_right (Nat.add_le_add_right (Nat.add_le_add_right (Nat.add_le_add_right (Nat.add_le_add_right (Nat.add_le_add_right (Nat.add_le_add_right (Nat.add_le_add_right hc64 0) 0) 0) 0) 0) 0) 0) 0) 0) (by decide)) (own_le (Nat.add_le_add_right (Nat.add_le_add_right (Nat.add_le_add_right (Nat.add_le_add_right (Nat.add_le_add_right (Nat.add_le_add_right (Nat.add_le_add_right (Nat.add_le_add_right (Nat.add_le_add_right hs64 0) 0) 0) 0) 0) 0) 0) 0) 0) (by decide)) (fun v145 T145 h145 L145 X145 e145 q145 => ?_)
          obtain ⟨rfl, M145, s145⟩ := q145
          replace e145 : T145.heap = h142 := e145.trans s145
          have N145 := Fr.app N143 M145
          refine own_go (fun t k => XS.iload X145.here hx rfl (hb hby at_384) rfl  k) ?_
          have hc386 : (own_ee ch3 ch4 ch5) = (3 : Int32) := (by unfold own_ee; rw [if_neg hc195, if_pos hc215, if_pos hc254])
          refine own_go (fun t k => XS.icmpNo X145.here hx rfl (hb hby at_386) rfl (teq hc386).2 k) ?_
          refine own_go (fun t k => XS.aload X145.here hx rfl (hb hby at_389) rfl rfl  k) ?_
          refine own_callV X145 hx hZ (y := (⟨"com/example/profitmine/profitmine/io/Fields", "line", "()Ljava/lang/String;"⟩ : MethodName)) (z := (⟨"com/example/profitmine/profitmine/io/Fields", "line", "()Ljava/lang/String;"⟩ : MethodName)) (W := 0) (a := b39) (argsL := []) (rest := []) hown (hw _ (List.mem_of_getElem? (i := 97) rfl)) (hw _ (List.mem_of_getElem? (i := 98) rfl)) (notFace_of_selects (args := #[]) (mvT hZ (hw _ (List.mem_of_getElem? (i := 100) rfl)))) (hw _ (List.mem_of_getElem? (i := 100) rfl)) (hw _ (List.mem_of_getElem? (i := 99) rfl)) (by decide) (own_bk (rm_gline l Z a0 hw b39 b28 h142 n0 P142_0) hZ (hw _ (List.mem_of_getElem? (i := 101) rfl)) (hw _ (List.mem_of_getElem? (i := 36) rfl)) (by decide) (by decide)) e145 F144 (g := (mkF m 391 #[.val (.int p1), .val (.int p2), .val (.int p3), .val (.int p4), .val (.int p5), .val (.ref b1), .val (.ref b9), .val (.ref b18), .val (.ref b28), .val (.ref b39), .val (.int (p2 &&& (3 : Int32))), .val (.int (1 : Int32)), .val (.int (1 : Int32)), .val (.int (0 : Int32)), .val (.int (3 : Int32)), .val (.int (3 : Int32)), .val (.int (own_fd ch3 ch4 ch5))] [(.ref b39)])) rfl (by rw [hml]; rfl) (lenOf pd_15 rfl) rfl (by show 2 * 0 + _ ≤ _; exact Nat.le_of_eq rfl) (hb hby at_391) (own_le (Nat.add_le_add_right (Nat.add_le_add_right (Nat.add_le_add_right (Nat.add_le_add_right (Nat.add_le_add_right (Nat.add_le_add_right (Nat.add_le_add_right (Nat.add_le_add_right (Nat.add_le_add_right (Nat.add_le_add_right hc64 0) 0) 0) 0) 0) 0) 0) 0) 0) 0) (by decide)) (own_le (Nat.add_le_add_right (Nat.add_le_add_right (Nat.add_le_add_right (Nat.add_le_add_right (Nat.add_le_add_right (Nat.add_le_add_right (Nat.add_le_add_right (Nat.add_le_add_right (Nat.add_le_add_right (Nat.add_le_add_right hs64 0) 0) 0) 0) 0) 0) 0) 0) 0) 0) (by decide)) (fun v146 T146 h146 L146 X146 e146 q146 => ?_)
          obtain ⟨rfl, M146, s146⟩ := q146
          replace e146 : T146.heap = h142 := e146.trans s146
          have N146 := Fr.app N145 M146
          refine own_go (fun t k => XS.aload X146.here hx rfl (hb hby at_394) rfl rfl  k) ?_
          refine own_go (fun t k => Jvm.RoadKit.acmp (g := (mkF m 396 #[.val (.int p1), .val (.int p2), .val (.int p3), .val (.int p4), .val (.int p5), .val (.ref b1), .val (.ref b9), .val (.ref b18), .val (.ref b28), .val (.ref b39), .val (.int (p2 &&& (3 : Int32))), .val (.int (1 : Int32)), .val (.int (1 : Int32)), .val (.int (0 : Int32)), .val (.int (3 : Int32)), .val (.int (3 : Int32)), .val (.int (own_fd ch3 ch4 ch5))] [(.ref b28), (.ref b28)])) X146 hx rfl rfl rfl (pc0 := 396) (pc' := 399) (same := true) rfl (hb hby at_396) rfl (decide_eq_true rfl) (by decide) (by decide) k) ?_
          refine own_go (fun t k => XS.iconst X146.here hx rfl (hb hby at_399) k) ?_
          refine own_go (fun t k => XS.goto X146.here hx rfl (pc0 := 400) (pc' := 404) rfl (hb hby at_400) (by decide) (by decide) k) ?_
          show own_Run p e below Φ (T146.setTop (mkF m 404 #[.val (.int p1), .val (.int p2), .val (.int p3), .val (.int p4), .val (.int p5), .val (.ref b1), .val (.ref b9), .val (.ref b18), .val (.ref b28), .val (.ref b39), .val (.int (p2 &&& (3 : Int32))), .val (.int (1 : Int32)), .val (.int (1 : Int32)), .val (.int (0 : Int32)), .val (.int (3 : Int32)), .val (.int (3 : Int32)), .val (.int (own_fd ch3 ch4 ch5))] [(.int (1 : Int32))]))
          have F147 : ky50 ≤ h142.size := (Nat.le_trans (Nat.le_trans F74 K78.1) K142.1)
          subst hΦ
          exact own_retNW X146 hx (t := .boolean) Bd.returns (by simp) hlk (hb hby at_404) e146 hS50 F147 ⟨rfl, N146⟩ (Nat.le_trans (Nat.add_le_add_right (Nat.add_le_add_right (Nat.add_le_add_right (Nat.add_le_add_right (Nat.add_le_add_right (Nat.add_le_add_right (Nat.add_le_add_right (Nat.add_le_add_right (Nat.add_le_add_right (Nat.add_le_add_right (Nat.add_le_add_right hc64 0) 0) 0) 0) 0) 0) 0) 0) 0) 0) 0) (by decide)) (Nat.le_trans (Nat.add_le_add_right (Nat.add_le_add_right (Nat.add_le_add_right (Nat.add_le_add_right (Nat.add_le_add_right (Nat.add_le_add_right (Nat.add_le_add_right (Nat.add_le_add_right (Nat.add_le_add_right (Nat.add_le_add_right (Nat.add_le_add_right hs64 0) 0) 0) 0) 0) 0) 0) 0) 0) 0) 0) (by decide))
        · refine own_go (fun t k => XS.icmpNo X136.here hx rfl (hb hby at_254) rfl (feq hc254).1 k) ?_
          refine own_go (fun t k => XS.iconst X136.here hx rfl (hb hby at_257) k) ?_
          refine own_go (fun t k => XS.goto X136.here hx rfl (pc0 := 258) (pc' := 262) rfl (hb hby at_258) (by decide) (by decide) k) ?_
          refine own_go (fun t k => XS.istore X136.here hx rfl (hb hby at_262) rfl (l' := #[.val (.int p1), .val (.int p2), .val (.int p3), .val (.int p4), .val (.int p5), .val (.ref b1), .val (.ref b9), .val (.ref b18), .val (.ref b28), .val (.ref b39), .val (.int (p2 &&& (3 : Int32))), .val (.int (1 : Int32)), .val (.int (1 : Int32)), .val (.int (1 : Int32)), .unset, .unset, .unset]) rfl k) ?_
          refine own_go (fun t k => XS.iload X136.here hx rfl (hb hby at_264) rfl  k) ?_
          refine own_go (fun t k => XS.ifNo X136.here hx rfl (hb hby at_266) rfl ((if0 _ _).trans (feq (by decide : ¬ ((1 : Int32) = (0 : Int32)))).1) k) ?_
          refine own_go (fun t k => XS.iload X136.here hx rfl (hb hby at_269) rfl  k) ?_
          refine own_go (fun t k => XS.istore X136.here hx rfl (hb hby at_271) rfl (l' := #[.val (.int p1), .val (.int p2), .val (.int p3), .val (.int p4), .val (.int p5), .val (.ref b1), .val (.ref b9), .val (.ref b18), .val (.ref b28), .val (.ref b39), .val (.int (p2 &&& (3 : Int32))), .val (.int (1 : Int32)), .val (.int (1 : Int32)), .val (.int (1 : Int32)), .val (.int (1 : Int32)), .unset, .unset]) rfl k) ?_
          refine own_go (fun t k => XS.iload X136.here hx rfl (hb hby at_273) rfl  k) ?_
          show own_Run p e below Φ (T136.setTop (mkF m 275 #[.val (.int p1), .val (.int p2), .val (.int p3), .val (.int p4), .val (.int p5), .val (.ref b1), .val (.ref b9), .val (.ref b18), .val (.ref b28), .val (.ref b39), .val (.int (p2 &&& (3 : Int32))), .val (.int (1 : Int32)), .val (.int (1 : Int32)), .val (.int (1 : Int32)), .val (.int (1 : Int32)), .unset, .unset] [(.int (1 : Int32))]))
          refine own_go (fun t k => XS.istore X136.here hx rfl (hb hby at_275) rfl (l' := #[.val (.int p1), .val (.int p2), .val (.int p3), .val (.int p4), .val (.int p5), .val (.ref b1), .val (.ref b9), .val (.ref b18), .val (.ref b28), .val (.ref b39), .val (.int (p2 &&& (3 : Int32))), .val (.int (1 : Int32)), .val (.int (1 : Int32)), .val (.int (1 : Int32)), .val (.int (1 : Int32)), .unset, .val (.int (1 : Int32))]) rfl k) ?_
          refine own_go (fun t k => XS.iload X136.here hx rfl (hb hby at_277) rfl  k) ?_
          refine own_go (fun t k => XS.iconst X136.here hx rfl (hb hby at_279) k) ?_
          refine own_go (fun t k => XS.icmpNo X136.here hx rfl (hb hby at_280) rfl (tlt (by decide : (1 : Int32) < (3 : Int32))).2.1 k) ?_
          refine own_go (fun t k => XS.aload X136.here hx rfl (hb hby at_283) rfl rfl  k) ?_
          refine own_go (fun t k => XS.iload X136.here hx rfl (hb hby at_285) rfl  k) ?_
          refine own_caload X136 hx hZ e136 F83 (j := (1 : Int32)) (v := (.int ch4)) ⟨by decide, by decide⟩ rfl (g := (mkF m 287 #[.val (.int p1), .val (.int p2), .val (.int p3), .val (.int p4), .val (.int p5), .val (.ref b1), .val (.ref b9), .val (.ref b18), .val (.ref b28), .val (.ref b39), .val (.int (p2 &&& (3 : Int32))), .val (.int (1 : Int32)), .val (.int (1 : Int32)), .val (.int (1 : Int32)), .val (.int (1 : Int32)), .unset, .val (.int (1 : Int32))] [(.int (1 : Int32)), (.ref b9)])) rfl rfl (hb hby at_287) ?_
          refine own_callS X136 hx hZ (y := (⟨"com/example/profitmine/profitmine/io/FieldsWalkPinLaw", "blank", "(C)Z"⟩ : MethodName)) (W := 0) (argsL := [(.int ch4)]) (rest := []) hown (hw _ (List.mem_of_getElem? (i := 112) rfl)) (hw _ (List.mem_of_getElem? (i := 113) rfl)) (hw _ (List.mem_of_getElem? (i := 3) rfl)) (hw _ (List.mem_of_getElem? (i := 114) rfl)) (by decide) (own_bk (rm_bl l Z a0 hw ch4 h78 n0 ) hZ (hw _ (List.mem_of_getElem? (i := 114) rfl)) (hw _ (List.mem_of_getElem? (i := 3) rfl)) (by decide) (by decide)) e136 (g := (mkF m 288 #[.val (.int p1), .val (.int p2), .val (.int p3), .val (.int p4), .val (.int p5), .val (.ref b1), .val (.ref b9), .val (.ref b18), .val (.ref b28), .val (.ref b39), .val (.int (p2 &&& (3 : Int32))), .val (.int (1 : Int32)), .val (.int (1 : Int32)), .val (.int (1 : Int32)), .val (.int (1 : Int32)), .unset, .val (.int (1 : Int32))] [(.int ch4)])) rfl (by rw [hml]; rfl) (lenOf pd_14 rfl) rfl (by show 2 * 0 + _ ≤ _; exact Nat.le_of_eq rfl) (hb hby at_288) (own_le (Nat.add_le_add_right (Nat.add_le_add_right (Nat.add_le_add_right (Nat.add_le_add_right (Nat.add_le_add_right (Nat.add_le_add_right (Nat.add_le_add_right hc64 0) 0) 0) 0) 0) 0) 0) (by decide)) (own_le (Nat.add_le_add_right (Nat.add_le_add_right (Nat.add_le_add_right (Nat.add_le_add_right (Nat.add_le_add_right (Nat.add_le_add_right (Nat.add_le_add_right hs64 0) 0) 0) 0) 0) 0) 0) (by decide)) (fun v148 T148 h148 L148 X148 e148 q148 => ?_)
          obtain ⟨rfl, M148, s148⟩ := q148
          replace e148 : T148.heap = h78 := e148.trans s148
          have N148 := Fr.app N136 M148
          refine own_go (fun t k => XS.ifNo X148.here hx rfl (hb hby at_291) rfl ((if0 _ _).trans (teq hc215).2) k) ?_
          show own_Run p e below Φ (T148.setTop (mkF m 294 #[.val (.int p1), .val (.int p2), .val (.int p3), .val (.int p4), .val (.int p5), .val (.ref b1), .val (.ref b9), .val (.ref b18), .val (.ref b28), .val (.ref b39), .val (.int (p2 &&& (3 : Int32))), .val (.int (1 : Int32)), .val (.int (1 : Int32)), .val (.int (1 : Int32)), .val (.int (1 : Int32)), .unset, .val (.int (1 : Int32))] []))
          refine own_go (fun t k => XS.iinc X148.here hx rfl (hb hby at_294) rfl (l' := #[.val (.int p1), .val (.int p2), .val (.int p3), .val (.int p4), .val (.int p5), .val (.ref b1), .val (.ref b9), .val (.ref b18), .val (.ref b28), .val (.ref b39), .val (.int (p2 &&& (3 : Int32))), .val (.int (1 : Int32)), .val (.int (1 : Int32)), .val (.int (1 : Int32)), .val (.int (1 : Int32)), .unset, .val (.int ((1 : Int32) + (1 : Int32)))]) rfl k) ?_
          show own_Run p e below Φ (T148.setTop (mkF m 297 #[.val (.int p1), .val (.int p2), .val (.int p3), .val (.int p4), .val (.int p5), .val (.ref b1), .val (.ref b9), .val (.ref b18), .val (.ref b28), .val (.ref b39), .val (.int (p2 &&& (3 : Int32))), .val (.int (1 : Int32)), .val (.int (1 : Int32)), .val (.int (1 : Int32)), .val (.int (1 : Int32)), .unset, .val (.int ((1 : Int32) + (1 : Int32)))] []))
          rw [show ((1 : Int32) + (1 : Int32)) = (2 : Int32) from by decide]
          show own_Run p e below Φ (T148.setTop (mkF m 297 #[.val (.int p1), .val (.int p2), .val (.int p3), .val (.int p4), .val (.int p5), .val (.ref b1), .val (.ref b9), .val (.ref b18), .val (.ref b28), .val (.ref b39), .val (.int (p2 &&& (3 : Int32))), .val (.int (1 : Int32)), .val (.int (1 : Int32)), .val (.int (1 : Int32)), .val (.int (1 : Int32)), .unset, .val (.int (2 : Int32))] []))
          refine own_go (fun t k => XS.iload X148.here hx rfl (hb hby at_297) rfl  k) ?_
          refine own_go (fun t k => XS.iconst X148.here hx rfl (hb hby at_299) k) ?_
          refine own_go (fun t k => XS.icmpNo X148.here hx rfl (hb hby at_300) rfl (tlt (by decide : (2 : Int32) < (3 : Int32))).2.1 k) ?_
          refine own_go (fun t k => XS.aload X148.here hx rfl (hb hby at_303) rfl rfl  k) ?_
          refine own_go (fun t k => XS.iload X148.here hx rfl (hb hby at_305) rfl  k) ?_
          refine own_caload X148 hx hZ e148 F83 (j := (2 : Int32)) (v := (.int ch5)) ⟨by decide, by decide⟩ rfl (g := (mkF m 307 #[.val (.int p1), .val (.int p2), .val (.int p3), .val (.int p4), .val (.int p5), .val (.ref b1), .val (.ref b9), .val (.ref b18), .val (.ref b28), .val (.ref b39), .val (.int (p2 &&& (3 : Int32))), .val (.int (1 : Int32)), .val (.int (1 : Int32)), .val (.int (1 : Int32)), .val (.int (1 : Int32)), .unset, .val (.int (2 : Int32))] [(.int (2 : Int32)), (.ref b9)])) rfl rfl (hb hby at_307) ?_
          refine own_callS X148 hx hZ (y := (⟨"com/example/profitmine/profitmine/io/FieldsWalkPinLaw", "blank", "(C)Z"⟩ : MethodName)) (W := 0) (argsL := [(.int ch5)]) (rest := []) hown (hw _ (List.mem_of_getElem? (i := 112) rfl)) (hw _ (List.mem_of_getElem? (i := 113) rfl)) (hw _ (List.mem_of_getElem? (i := 3) rfl)) (hw _ (List.mem_of_getElem? (i := 114) rfl)) (by decide) (own_bk (rm_bl l Z a0 hw ch5 h78 n0 ) hZ (hw _ (List.mem_of_getElem? (i := 114) rfl)) (hw _ (List.mem_of_getElem? (i := 3) rfl)) (by decide) (by decide)) e148 (g := (mkF m 308 #[.val (.int p1), .val (.int p2), .val (.int p3), .val (.int p4), .val (.int p5), .val (.ref b1), .val (.ref b9), .val (.ref b18), .val (.ref b28), .val (.ref b39), .val (.int (p2 &&& (3 : Int32))), .val (.int (1 : Int32)), .val (.int (1 : Int32)), .val (.int (1 : Int32)), .val (.int (1 : Int32)), .unset, .val (.int (2 : Int32))] [(.int ch5)])) rfl (by rw [hml]; rfl) (lenOf pd_14 rfl) rfl (by show 2 * 0 + _ ≤ _; exact Nat.le_of_eq rfl) (hb hby at_308) (own_le (Nat.add_le_add_right (Nat.add_le_add_right (Nat.add_le_add_right (Nat.add_le_add_right (Nat.add_le_add_right (Nat.add_le_add_right (Nat.add_le_add_right (Nat.add_le_add_right hc64 0) 0) 0) 0) 0) 0) 0) 0) (by decide)) (own_le (Nat.add_le_add_right (Nat.add_le_add_right (Nat.add_le_add_right (Nat.add_le_add_right (Nat.add_le_add_right (Nat.add_le_add_right (Nat.add_le_add_right (Nat.add_le_add_right hs64 0) 0) 0) 0) 0) 0) 0) 0) (by decide)) (fun v149 T149 h149 L149 X149 e149 q149 => ?_)
          obtain ⟨rfl, M149, s149⟩ := q149
          replace e149 : T149.heap = h78 := e149.trans s149
          have N149 := Fr.app N148 M149
          by_cases hc311 : (own_blk ch5) = (0 : Int32)
          · refine own_go (fun t k => XS.ifNo X149.here hx rfl (hb hby at_311) rfl ((if0 _ _).trans (teq hc311).2) k) ?_
            refine own_go (fun t k => XS.iinc X149.here hx rfl (hb hby at_314) rfl (l' := #[.val (.int p1), .val (.int p2), .val (.int p3), .val (.int p4), .val (.int p5), .val (.ref b1), .val (.ref b9), .val (.ref b18), .val (.ref b28), .val (.ref b39), .val (.int (p2 &&& (3 : Int32))), .val (.int (1 : Int32)), .val (.int (1 : Int32)), .val (.int (1 : Int32)), .val (.int (1 : Int32)), .unset, .val (.int ((2 : Int32) + (1 : Int32)))]) rfl k) ?_
            show own_Run p e below Φ (T149.setTop (mkF m 317 #[.val (.int p1), .val (.int p2), .val (.int p3), .val (.int p4), .val (.int p5), .val (.ref b1), .val (.ref b9), .val (.ref b18), .val (.ref b28), .val (.ref b39), .val (.int (p2 &&& (3 : Int32))), .val (.int (1 : Int32)), .val (.int (1 : Int32)), .val (.int (1 : Int32)), .val (.int (1 : Int32)), .unset, .val (.int ((2 : Int32) + (1 : Int32)))] []))
            rw [show ((2 : Int32) + (1 : Int32)) = (3 : Int32) from by decide]
            show own_Run p e below Φ (T149.setTop (mkF m 317 #[.val (.int p1), .val (.int p2), .val (.int p3), .val (.int p4), .val (.int p5), .val (.ref b1), .val (.ref b9), .val (.ref b18), .val (.ref b28), .val (.ref b39), .val (.int (p2 &&& (3 : Int32))), .val (.int (1 : Int32)), .val (.int (1 : Int32)), .val (.int (1 : Int32)), .val (.int (1 : Int32)), .unset, .val (.int (3 : Int32))] []))
            refine own_go (fun t k => XS.iload X149.here hx rfl (hb hby at_317) rfl  k) ?_
            refine own_go (fun t k => XS.iconst X149.here hx rfl (hb hby at_319) k) ?_
            refine own_go (fun t k => XS.icmpYes X149.here hx rfl (pc0 := 320) (pc' := 337) rfl (hb hby at_320) rfl (flt (by decide : ¬ ((3 : Int32) < (3 : Int32)))).2.1 (by decide) (by decide) k) ?_
            refine own_go (fun t k => XS.iload X149.here hx rfl (hb hby at_337) rfl  k) ?_
            refine own_go (fun t k => XS.istore X149.here hx rfl (hb hby at_339) rfl (l' := #[.val (.int p1), .val (.int p2), .val (.int p3), .val (.int p4), .val (.int p5), .val (.ref b1), .val (.ref b9), .val (.ref b18), .val (.ref b28), .val (.ref b39), .val (.int (p2 &&& (3 : Int32))), .val (.int (1 : Int32)), .val (.int (1 : Int32)), .val (.int (1 : Int32)), .val (.int (1 : Int32)), .val (.int (3 : Int32)), .val (.int (3 : Int32))]) rfl k) ?_
            refine own_go (fun t k => XS.goto X149.here hx rfl (pc0 := 341) (pc' := 350) rfl (hb hby at_341) (by decide) (by decide) k) ?_
            refine own_go (fun t k => XS.aload X149.here hx rfl (hb hby at_350) rfl rfl  k) ?_
            have F150 : Old Z n0 h78 := (F73.keep K78 (allS (Nat.le_trans F40 (Nat.le_of_eq g39.symm)) all0))
            have F151 : Exa Z h78 b28 "java/lang/String" := (F67.keep K78)
            have F152 : Fld Z h78 b28 "java/lang/String" "value" "[B" (.ref t38) := (F68.keep K78 (ninS ne_b28_b39 nin0))
            have F153 : Fld Z h78 b28 "java/lang/String" "coder" "B" (.int 0) := (F69.keep K78 (ninS ne_b28_b39 nin0))
            have F154 : Arv Z h78 t38 kb38 .byte (3 : Int32) [(.int (ch3.toInt8.toInt32)), (.int (ch4.toInt8.toInt32)), (.int (ch5.toInt8.toInt32))] (.int 0) := (F70.keep K78 (ninS ne_t38_b39 nin0))
            refine own_callV X149 hx hZ (y := (⟨"com/example/profitmine/profitmine/io/Fields", "next", "()Z"⟩ : MethodName)) (z := (⟨"com/example/profitmine/profitmine/io/Fields", "next", "()Z"⟩ : MethodName)) (W := 0) (a := b39) (argsL := []) (rest := []) hown (hw _ (List.mem_of_getElem? (i := 57) rfl)) (hw _ (List.mem_of_getElem? (i := 58) rfl)) (notFace_of_selects (args := #[]) (mvT hZ (hw _ (List.mem_of_getElem? (i := 60) rfl)))) (hw _ (List.mem_of_getElem? (i := 60) rfl)) (hw _ (List.mem_of_getElem? (i := 59) rfl)) (by decide) (own_bk (rm_nb l Z a0 hw b39 b28 t38 kb38 ch3 ch4 ch5 G1 G3 (0 : Int32) h78 n0 F80 P78_0 P78_2 P78_3 P78_1 F150 S0 P5 S1 R3 F151 F152 F153 F154 (Nat.le_trans F40 (Nat.le_of_eq g39.symm)) ne_b28_b39 ne_t38_b39 ⟨hch3, hch4, hch5⟩) hZ (hw _ (List.mem_of_getElem? (i := 61) rfl)) (hw _ (List.mem_of_getElem? (i := 36) rfl)) (by decide) (by decide)) e149 F80 (g := (mkF m 352 #[.val (.int p1), .val (.int p2), .val (.int p3), .val (.int p4), .val (.int p5), .val (.ref b1), .val (.ref b9), .val (.ref b18), .val (.ref b28), .val (.ref b39), .val (.int (p2 &&& (3 : Int32))), .val (.int (1 : Int32)), .val (.int (1 : Int32)), .val (.int (1 : Int32)), .val (.int (1 : Int32)), .val (.int (3 : Int32)), .val (.int (3 : Int32))] [(.ref b39)])) rfl (by rw [hml]; rfl) (lenOf pd_8 rfl) rfl (by show 2 * 0 + _ ≤ _; exact Nat.le_of_eq rfl) (hb hby at_352) (own_le (Nat.add_le_add_right (Nat.add_le_add_right (Nat.add_le_add_right (Nat.add_le_add_right (Nat.add_le_add_right (Nat.add_le_add_right (Nat.add_le_add_right (Nat.add_le_add_right (Nat.add_le_add_right hc64 0) 0) 0) 0) 0) 0) 0) 0) 0) (by decide)) (own_le (Nat.add_le_add_right (Nat.add_le_add_right (Nat.add_le_add_right (Nat.add_le_add_right (Nat.add_le_add_right (Nat.add_le_add_right (Nat.add_le_add_right (Nat.add_le_add_right (Nat.add_le_add_right hs64 0) 0) 0) 0) 0) 0) 0) 0) 0) (by decide)) (fun v155 T155 h155 L155 X155 e155 q155 => ?_)
            obtain ⟨rfl, M155, K155, P155_0, P155_1, P155_2⟩ := q155
            have N155 := Fr.app N149 M155
            refine own_go (fun t k => XS.istore X155.here hx rfl (hb hby at_355) rfl (l' := #[.val (.int p1), .val (.int p2), .val (.int p3), .val (.int p4), .val (.int p5), .val (.ref b1), .val (.ref b9), .val (.ref b18), .val (.ref b28), .val (.ref b39), .val (.int (p2 &&& (3 : Int32))), .val (.int (1 : Int32)), .val (.int (1 : Int32)), .val (.int (1 : Int32)), .val (.int (1 : Int32)), .val (.int (3 : Int32)), .val (.int (own_fd ch3 ch4 ch5))]) rfl k) ?_
            show own_Run p e below Φ (T155.setTop (mkF m 357 #[.val (.int p1), .val (.int p2), .val (.int p3), .val (.int p4), .val (.int p5), .val (.ref b1), .val (.ref b9), .val (.ref b18), .val (.ref b28), .val (.ref b39), .val (.int (p2 &&& (3 : Int32))), .val (.int (1 : Int32)), .val (.int (1 : Int32)), .val (.int (1 : Int32)), .val (.int (1 : Int32)), .val (.int (3 : Int32)), .val (.int (own_fd ch3 ch4 ch5))] []))
            refine own_go (fun t k => XS.iload X155.here hx rfl (hb hby at_357) rfl  k) ?_
            refine own_go (fun t k => XS.ifNo X155.here hx rfl (hb hby at_359) rfl ((if0 _ _).trans (feq (by decide : ¬ ((1 : Int32) = (0 : Int32)))).1) k) ?_
            refine own_go (fun t k => XS.iload X155.here hx rfl (hb hby at_362) rfl  k) ?_
            refine own_go (fun t k => XS.iload X155.here hx rfl (hb hby at_364) rfl  k) ?_
            have hc366 : (own_fd ch3 ch4 ch5) = (1 : Int32) := (by unfold own_fd; rw [if_neg hc195, if_pos hc215, if_neg hc254])
            refine own_go (fun t k => XS.icmpNo X155.here hx rfl (hb hby at_366) rfl (teq hc366).2 k) ?_
            refine own_go (fun t k => XS.aload X155.here hx rfl (hb hby at_369) rfl rfl  k) ?_
            have F157 : Exa Z h155 b39 "com/example/profitmine/profitmine/io/Fields" := (F80.keep K155)
            refine own_callV X155 hx hZ (y := (⟨"com/example/profitmine/profitmine/io/Fields", "start", "()I"⟩ : MethodName)) (z := (⟨"com/example/profitmine/profitmine/io/Fields", "start", "()I"⟩ : MethodName)) (W := 0) (a := b39) (argsL := []) (rest := []) hown (hw _ (List.mem_of_getElem? (i := 102) rfl)) (hw _ (List.mem_of_getElem? (i := 103) rfl)) (notFace_of_selects (args := #[]) (mvT hZ (hw _ (List.mem_of_getElem? (i := 105) rfl)))) (hw _ (List.mem_of_getElem? (i := 105) rfl)) (hw _ (List.mem_of_getElem? (i := 104) rfl)) (by decide) (own_bk (rm_gstart l Z a0 hw b39 (own_es ch3 ch4 ch5) h155 n0 P155_1) hZ (hw _ (List.mem_of_getElem? (i := 106) rfl)) (hw _ (List.mem_of_getElem? (i := 36) rfl)) (by decide) (by decide)) e155 F157 (g := (mkF m 371 #[.val (.int p1), .val (.int p2), .val (.int p3), .val (.int p4), .val (.int p5), .val (.ref b1), .val (.ref b9), .val (.ref b18), .val (.ref b28), .val (.ref b39), .val (.int (p2 &&& (3 : Int32))), .val (.int (1 : Int32)), .val (.int (1 : Int32)), .val (.int (1 : Int32)), .val (.int (1 : Int32)), .val (.int (3 : Int32)), .val (.int (own_fd ch3 ch4 ch5))] [(.ref b39)])) rfl (by rw [hml]; rfl) (lenOf pd_9 rfl) rfl (by show 2 * 0 + _ ≤ _; exact Nat.le_of_eq rfl) (hb hby at_371) (own_le (Nat.add_le_add_right (Nat.add_le_add_right (Nat.add_le_add_right (Nat.add_le_add_right (Nat.add_le_add_right (Nat.add_le_add_right (Nat.add_le_add_right (Nat.add_le_add_right (Nat.add_le_add_right (Nat.add_le_add_right hc64 0) 0) 0) 0) 0) 0) 0) 0) 0) 0) (by decide)) (own_le (Nat.add_le_add_right (Nat.add_le_add_right (Nat.add_le_add_right (Nat.add_le_add_right (Nat.add_le_add_right (Nat.add_le_add_right (Nat.add_le_add_right (Nat.add_le_add_right (Nat.add_le_add_right (Nat.add_le_add_right hs64 0) 0) 0) 0) 0) 0) 0) 0) 0) 0) (by decide)) (fun v156 T156 h156 L156 X156 e156 q156 => ?_)
            obtain ⟨rfl, M156, s156⟩ := q156
            replace e156 : T156.heap = h155 := e156.trans s156
            have N156 := Fr.app N155 M156
            refine own_go (fun t k => XS.iload X156.here hx rfl (hb hby at_374) rfl  k) ?_
            have hc376 : (own_es ch3 ch4 ch5) = (1 : Int32) := (by unfold own_es; rw [if_neg hc195, if_pos hc215, if_neg hc254])
            refine own_go (fun t k => XS.icmpNo X156.here hx rfl (hb hby at_376) rfl (teq hc376).2 k) ?_
            show own_Run p e below Φ (T156.setTop (mkF m 379 #[.val (.int p1), .val (.int p2), .val (.int p3), .val (.int p4), .val (.int p5), .val (.ref b1), .val (.ref b9), .val (.ref b18), .val (.ref b28), .val (.ref b39), .val (.int (p2 &&& (3 : Int32))), .val (.int (1 : Int32)), .val (.int (1 : Int32)), .val (.int (1 : Int32)), .val (.int (1 : Int32)), .val (.int (3 : Int32)), .val (.int (own_fd ch3 ch4 ch5))] []))
            refine own_go (fun t k => XS.aload X156.here hx rfl (hb hby at_379) rfl rfl  k) ?_
            refine own_callV X156 hx hZ (y := (⟨"com/example/profitmine/profitmine/io/Fields", "end", "()I"⟩ : MethodName)) (z := (⟨"com/example/profitmine/profitmine/io/Fields", "end", "()I"⟩ : MethodName)) (W := 0) (a := b39) (argsL := []) (rest := []) hown (hw _ (List.mem_of_getElem? (i := 107) rfl)) (hw _ (List.mem_of_getElem? (i := 108) rfl)) (notFace_of_selects (args := #[]) (mvT hZ (hw _ (List.mem_of_getElem? (i := 110) rfl)))) (hw _ (List.mem_of_getElem? (i := 110) rfl)) (hw _ (List.mem_of_getElem? (i := 109) rfl)) (by decide) (own_bk (rm_gend l Z a0 hw b39 (own_ee ch3 ch4 ch5) h155 n0 P155_2) hZ (hw _ (List.mem_of_getElem? (i := 111) rfl)) (hw _ (List.mem_of_getElem? (i := 36) rfl)) (by decide) (by decide)) e156 F157 (g := (mkF m 381 #[.val (.int p1), .val (.int p2), .val (.int p3), .val (.int p4), .val (.int p5), .val (.ref b1), .val (.ref b9), .val (.ref b18), .val (.ref b28), .val (.ref b39), .val (.int (p2 &&& (3 : Int32))), .val (.int (1 : Int32)), .val (.int (1 : Int32)), .val (.int (1 : Int32)), .val (.int (1 : Int32)), .val (.int (3 : Int32)), .val (.int (own_fd ch3 ch4 ch5))] [(.ref b39)])) rfl (by rw [hml]; rfl) (lenOf pd_9 rfl) rfl (by show 2 * 0 + _ ≤ _; exact Nat.le_of_eq rfl) (hb hby at_381) (own_le (Nat.add_le_add_right (Nat.add_le_add_right (Nat.add_le_add_right (Nat.add_le_add_right (Nat.add_le_add_right (Nat.add_le_add_right (Nat.add_le_add_right (Nat.add_le_add_right (Nat.add_le_add_right (Nat.add_le_add_right (Nat.add_le_add_right hc64 0) 0) 0) 0) 0) 0) 0) 0) 0) 0) 0) (by decide)) (own_le (Nat.add_le_add_right (Nat.add_le_add_right (Nat.add_le_add_right (Nat.add_le_add_right (Nat.add_le_add_right (Nat.add_le_add_right (Nat.add_le_add_right (Nat.add_le_add_right (Nat.add_le_add_right (Nat.add_le_add_right (Nat.add_le_add_right hs64 0) 0) 0) 0) 0) 0) 0) 0) 0) 0) 0) (by decide)) (fun v158 T158 h158 L158 X158 e158 q158 => ?_)
            obtain ⟨rfl, M158, s158⟩ := q158
            replace e158 : T158.heap = h155 := e158.trans s158
            have N158 := Fr.app N156 M158
            refine own_go (fun t k => XS.iload X158.here hx rfl (hb hby at_384) rfl  k) ?_
            have hc386 : (own_ee ch3 ch4 ch5) = (3 : Int32) := (by unfold own_ee; rw [if_neg hc195, if_pos hc215, if_neg hc254, if_pos hc311])
            refine own_go (fun t k => XS.icmpNo X158.here hx rfl (hb hby at_386) rfl (teq hc386).2 k) ?_
            refine own_go (fun t k => XS.aload X158.here hx rfl (hb hby at_389) rfl rfl  k) ?_
            refine own_callV X158 hx hZ (y := (⟨"com/example/profitmine/profitmine/io/Fields", "line", "()Ljava/lang/String;"⟩ : MethodName)) (z := (⟨"com/example/profitmine/profitmine/io/Fields", "line", "()Ljava/lang/String;"⟩ : MethodName)) (W := 0) (a := b39) (argsL := []) (rest := []) hown (hw _ (List.mem_of_getElem? (i := 97) rfl)) (hw _ (List.mem_of_getElem? (i := 98) rfl)) (notFace_of_selects (args := #[]) (mvT hZ (hw _ (List.mem_of_getElem? (i := 100) rfl)))) (hw _ (List.mem_of_getElem? (i := 100) rfl)) (hw _ (List.mem_of_getElem? (i := 99) rfl)) (by decide) (own_bk (rm_gline l Z a0 hw b39 b28 h155 n0 P155_0) hZ (hw _ (List.mem_of_getElem? (i := 101) rfl)) (hw _ (List.mem_of_getElem? (i := 36) rfl)) (by decide) (by decide)) e158 F157 (g := (mkF m 391 #[.val (.int p1), .val (.int p2), .val (.int p3), .val (.int p4), .val (.int p5), .val (.ref b1), .val (.ref b9), .val (.ref b18), .val (.ref b28), .val (.ref b39), .val (.int (p2 &&& (3 : Int32))), .val (.int (1 : Int32)), .val (.int (1 : Int32)), .val (.int (1 : Int32)), .val (.int (1 : Int32)), .val (.int (3 : Int32)), .val (.int (own_fd ch3 ch4 ch5))] [(.ref b39)])) rfl (by rw [hml]; rfl) (lenOf pd_15 rfl) rfl (by show 2 * 0 + _ ≤ _; exact Nat.le_of_eq rfl) (hb hby at_391) (own_le (Nat.add_le_add_right (Nat.add_le_add_right (Nat.add_le_add_right (Nat.add_le_add_right (Nat.add_le_add_right (Nat.add_le_add_right (Nat.add_le_add_right (Nat.add_le_add_right (Nat.add_le_add_right (Nat.add_le_add_right (Nat.add_le_add_right (Nat.add_le_add_right hc64 0) 0) 0) 0) 0) 0) 0) 0) 0) 0) 0) 0) (by decide)) (own_le (Nat.add_le_add_right (Nat.add_le_add_right (Nat.add_le_add_right (Nat.add_le_add_right (Nat.add_le_add_right (Nat.add_le_add_right (Nat.add_le_add_right (Nat.add_le_add_right (Nat.add_le_add_right (Nat.add_le_add_right (Nat.add_le_add_right (Nat.add_le_add_right hs64 0) 0) 0) 0) 0) 0) 0) 0) 0) 0) 0) 0) (by decide)) (fun v159 T159 h159 L159 X159 e159 q159 => ?_)
            obtain ⟨rfl, M159, s159⟩ := q159
            replace e159 : T159.heap = h155 := e159.trans s159
            have N159 := Fr.app N158 M159
            refine own_go (fun t k => XS.aload X159.here hx rfl (hb hby at_394) rfl rfl  k) ?_
            refine own_go (fun t k => Jvm.RoadKit.acmp (g := (mkF m 396 #[.val (.int p1), .val (.int p2), .val (.int p3), .val (.int p4), .val (.int p5), .val (.ref b1), .val (.ref b9), .val (.ref b18), .val (.ref b28), .val (.ref b39), .val (.int (p2 &&& (3 : Int32))), .val (.int (1 : Int32)), .val (.int (1 : Int32)), .val (.int (1 : Int32)), .val (.int (1 : Int32)), .val (.int (3 : Int32)), .val (.int (own_fd ch3 ch4 ch5))] [(.ref b28), (.ref b28)])) X159 hx rfl rfl rfl (pc0 := 396) (pc' := 399) (same := true) rfl (hb hby at_396) rfl (decide_eq_true rfl) (by decide) (by decide) k) ?_
            refine own_go (fun t k => XS.iconst X159.here hx rfl (hb hby at_399) k) ?_
            show own_Run p e below Φ (T159.setTop (mkF m 400 #[.val (.int p1), .val (.int p2), .val (.int p3), .val (.int p4), .val (.int p5), .val (.ref b1), .val (.ref b9), .val (.ref b18), .val (.ref b28), .val (.ref b39), .val (.int (p2 &&& (3 : Int32))), .val (.int (1 : Int32)), .val (.int (1 : Int32)), .val (.int (1 : Int32)), .val (.int (1 : Int32)), .val (.int (3 : Int32)), .val (.int (own_fd ch3 ch4 ch5))] [(.int (1 : Int32))]))
            refine own_go (fun t k => XS.goto X159.here hx rfl (pc0 := 400) (pc' := 404) rfl (hb hby at_400) (by decide) (by decide) k) ?_
            have F160 : ky50 ≤ h155.size := (Nat.le_trans (Nat.le_trans F74 K78.1) K155.1)
            subst hΦ
            exact own_retNW X159 hx (t := .boolean) Bd.returns (by simp) hlk (hb hby at_404) e159 hS50 F160 ⟨rfl, N159⟩ (Nat.le_trans (Nat.add_le_add_right (Nat.add_le_add_right (Nat.add_le_add_right (Nat.add_le_add_right (Nat.add_le_add_right (Nat.add_le_add_right (Nat.add_le_add_right (Nat.add_le_add_right (Nat.add_le_add_right (Nat.add_le_add_right (Nat.add_le_add_right (Nat.add_le_add_right (Nat.add_le_add_right hc64 0) 0) 0) 0) 0) 0) 0) 0) 0) 0) 0) 0) 0) (by decide)) (Nat.le_trans (Nat.add_le_add_right (Nat.add_le_add_right (Nat.add_le_add_right (Nat.add_le_add_right (Nat.add_le_add_right (Nat.add_le_add_right (Nat.add_le_add_right (Nat.add_le_add_right (Nat.add_le_add_right (Nat.add_le_add_right (Nat.add_le_add_right (Nat.add_le_add_right (Nat.add_le_add_right hs64 0) 0) 0) 0) 0) 0) 0) 0) 0) 0) 0) 0) 0) (by decide))
          · refine own_go (fun t k => XS.ifYes X149.here hx rfl (pc0 := 311) (pc' := 317) rfl (hb hby at_311) rfl ((if0 _ _).trans (feq hc311).2) (by decide) (by decide) k) ?_
            refine own_go (fun t k => XS.iload X149.here hx rfl (hb hby at_317) rfl  k) ?_
            refine own_go (fun t k => XS.iconst X149.here hx rfl (hb hby at_319) k) ?_
            refine own_go (fun t k => XS.icmpNo X149.here hx rfl (hb hby at_320) rfl (tlt (by decide : (2 : Int32) < (3 : Int32))).2.1 k) ?_
            refine own_go (fun t k => XS.aload X149.here hx rfl (hb hby at_323) rfl rfl  k) ?_
            refine own_go (fun t k => XS.iload X149.here hx rfl (hb hby at_325) rfl  k) ?_
            refine own_caload X149 hx hZ e149 F83 (j := (2 : Int32)) (v := (.int ch5)) ⟨by decide, by decide⟩ rfl (g := (mkF m 327 #[.val (.int p1), .val (.int p2), .val (.int p3), .val (.int p4), .val (.int p5), .val (.ref b1), .val (.ref b9), .val (.ref b18), .val (.ref b28), .val (.ref b39), .val (.int (p2 &&& (3 : Int32))), .val (.int (1 : Int32)), .val (.int (1 : Int32)), .val (.int (1 : Int32)), .val (.int (1 : Int32)), .unset, .val (.int (2 : Int32))] [(.int (2 : Int32)), (.ref b9)])) rfl rfl (hb hby at_327) ?_
            refine own_callS X149 hx hZ (y := (⟨"com/example/profitmine/profitmine/io/FieldsWalkPinLaw", "blank", "(C)Z"⟩ : MethodName)) (W := 0) (argsL := [(.int ch5)]) (rest := []) hown (hw _ (List.mem_of_getElem? (i := 112) rfl)) (hw _ (List.mem_of_getElem? (i := 113) rfl)) (hw _ (List.mem_of_getElem? (i := 3) rfl)) (hw _ (List.mem_of_getElem? (i := 114) rfl)) (by decide) (own_bk (rm_bl l Z a0 hw ch5 h78 n0 ) hZ (hw _ (List.mem_of_getElem? (i := 114) rfl)) (hw _ (List.mem_of_getElem? (i := 3) rfl)) (by decide) (by decide)) e149 (g := (mkF m 328 #[.val (.int p1), .val (.int p2), .val (.int p3), .val (.int p4), .val (.int p5), .val (.ref b1), .val (.ref b9), .val (.ref b18), .val (.ref b28), .val (.ref b39), .val (.int (p2 &&& (3 : Int32))), .val (.int (1 : Int32)), .val (.int (1 : Int32)), .val (.int (1 : Int32)), .val (.int (1 : Int32)), .unset, .val (.int (2 : Int32))] [(.int ch5)])) rfl (by rw [hml]; rfl) (lenOf pd_14 rfl) rfl (by show 2 * 0 + _ ≤ _; exact Nat.le_of_eq rfl) (hb hby at_328) (own_le (Nat.add_le_add_right (Nat.add_le_add_right (Nat.add_le_add_right (Nat.add_le_add_right (Nat.add_le_add_right (Nat.add_le_add_right (Nat.add_le_add_right (Nat.add_le_add_right (Nat.add_le_add_right hc64 0) 0) 0) 0) 0) 0) 0) 0) 0) (by decide)) (own_le (Nat.add_le_add_right (Nat.add_le_add_right (Nat.add_le_add_right (Nat.add_le_add_right (Nat.add_le_add_right (Nat.add_le_add_right (Nat.add_le_add_right (Nat.add_le_add_right (Nat.add_le_add_right hs64 0) 0) 0) 0) 0) 0) 0) 0) 0) (by decide)) (fun v161 T161 h161 L161 X161 e161 q161 => ?_)
            obtain ⟨rfl, M161, s161⟩ := q161
            replace e161 : T161.heap = h78 := e161.trans s161
            have N161 := Fr.app N149 M161
            show own_Run p e below Φ (T161.setTop (mkF m 331 #[.val (.int p1), .val (.int p2), .val (.int p3), .val (.int p4), .val (.int p5), .val (.ref b1), .val (.ref b9), .val (.ref b18), .val (.ref b28), .val (.ref b39), .val (.int (p2 &&& (3 : Int32))), .val (.int (1 : Int32)), .val (.int (1 : Int32)), .val (.int (1 : Int32)), .val (.int (1 : Int32)), .unset, .val (.int (2 : Int32))] [(.int (own_blk ch5))]))
            refine own_go (fun t k => XS.ifYes X161.here hx rfl (pc0 := 331) (pc' := 337) rfl (hb hby at_331) rfl ((if0 _ _).trans (feq hc311).2) (by decide) (by decide) k) ?_
            refine own_go (fun t k => XS.iload X161.here hx rfl (hb hby at_337) rfl  k) ?_
            refine own_go (fun t k => XS.istore X161.here hx rfl (hb hby at_339) rfl (l' := #[.val (.int p1), .val (.int p2), .val (.int p3), .val (.int p4), .val (.int p5), .val (.ref b1), .val (.ref b9), .val (.ref b18), .val (.ref b28), .val (.ref b39), .val (.int (p2 &&& (3 : Int32))), .val (.int (1 : Int32)), .val (.int (1 : Int32)), .val (.int (1 : Int32)), .val (.int (1 : Int32)), .val (.int (2 : Int32)), .val (.int (2 : Int32))]) rfl k) ?_
            refine own_go (fun t k => XS.goto X161.here hx rfl (pc0 := 341) (pc' := 350) rfl (hb hby at_341) (by decide) (by decide) k) ?_
            refine own_go (fun t k => XS.aload X161.here hx rfl (hb hby at_350) rfl rfl  k) ?_
            have F162 : Old Z n0 h78 := (F73.keep K78 (allS (Nat.le_trans F40 (Nat.le_of_eq g39.symm)) all0))
            have F163 : Exa Z h78 b28 "java/lang/String" := (F67.keep K78)
            have F164 : Fld Z h78 b28 "java/lang/String" "value" "[B" (.ref t38) := (F68.keep K78 (ninS ne_b28_b39 nin0))
            have F165 : Fld Z h78 b28 "java/lang/String" "coder" "B" (.int 0) := (F69.keep K78 (ninS ne_b28_b39 nin0))
            have F166 : Arv Z h78 t38 kb38 .byte (3 : Int32) [(.int (ch3.toInt8.toInt32)), (.int (ch4.toInt8.toInt32)), (.int (ch5.toInt8.toInt32))] (.int 0) := (F70.keep K78 (ninS ne_t38_b39 nin0))
            refine own_callV X161 hx hZ (y := (⟨"com/example/profitmine/profitmine/io/Fields", "next", "()Z"⟩ : MethodName)) (z := (⟨"com/example/profitmine/profitmine/io/Fields", "next", "()Z"⟩ : MethodName)) (W := 0) (a := b39) (argsL := []) (rest := []) hown (hw _ (List.mem_of_getElem? (i := 57) rfl)) (hw _ (List.mem_of_getElem? (i := 58) rfl)) (notFace_of_selects (args := #[]) (mvT hZ (hw _ (List.mem_of_getElem? (i := 60) rfl)))) (hw _ (List.mem_of_getElem? (i := 60) rfl)) (hw _ (List.mem_of_getElem? (i := 59) rfl)) (by decide) (own_bk (rm_nb l Z a0 hw b39 b28 t38 kb38 ch3 ch4 ch5 G1 G3 (0 : Int32) h78 n0 F80 P78_0 P78_2 P78_3 P78_1 F162 S0 P5 S1 R3 F163 F164 F165 F166 (Nat.le_trans F40 (Nat.le_of_eq g39.symm)) ne_b28_b39 ne_t38_b39 ⟨hch3, hch4, hch5⟩) hZ (hw _ (List.mem_of_getElem? (i := 61) rfl)) (hw _ (List.mem_of_getElem? (i := 36) rfl)) (by decide) (by decide)) e161 F80 (g := (mkF m 352 #[.val (.int p1), .val (.int p2), .val (.int p3), .val (.int p4), .val (.int p5), .val (.ref b1), .val (.ref b9), .val (.ref b18), .val (.ref b28), .val (.ref b39), .val (.int (p2 &&& (3 : Int32))), .val (.int (1 : Int32)), .val (.int (1 : Int32)), .val (.int (1 : Int32)), .val (.int (1 : Int32)), .val (.int (2 : Int32)), .val (.int (2 : Int32))] [(.ref b39)])) rfl (by rw [hml]; rfl) (lenOf pd_8 rfl) rfl (by show 2 * 0 + _ ≤ _; exact Nat.le_of_eq rfl) (hb hby at_352) (own_le (Nat.add_le_add_right (Nat.add_le_add_right (Nat.add_le_add_right (Nat.add_le_add_right (Nat.add_le_add_right (Nat.add_le_add_right (Nat.add_le_add_right (Nat.add_le_add_right (Nat.add_le_add_right (Nat.add_le_add_right hc64 0) 0) 0) 0) 0) 0) 0) 0) 0) 0) (by decide)) (own_le (Nat.add_le_add_right (Nat.add_le_add_right (Nat.add_le_add_right (Nat.add_le_add_right (Nat.add_le_add_right (Nat.add_le_add_right (Nat.add_le_add_right (Nat.add_le_add_right (Nat.add_le_add_right (Nat.add_le_add_right hs64 0) 0) 0) 0) 0) 0) 0) 0) 0) 0) (by decide)) (fun v167 T167 h167 L167 X167 e167 q167 => ?_)
            obtain ⟨rfl, M167, K167, P167_0, P167_1, P167_2⟩ := q167
            have N167 := Fr.app N161 M167
            refine own_go (fun t k => XS.istore X167.here hx rfl (hb hby at_355) rfl (l' := #[.val (.int p1), .val (.int p2), .val (.int p3), .val (.int p4), .val (.int p5), .val (.ref b1), .val (.ref b9), .val (.ref b18), .val (.ref b28), .val (.ref b39), .val (.int (p2 &&& (3 : Int32))), .val (.int (1 : Int32)), .val (.int (1 : Int32)), .val (.int (1 : Int32)), .val (.int (1 : Int32)), .val (.int (2 : Int32)), .val (.int (own_fd ch3 ch4 ch5))]) rfl k) ?_
            refine own_go (fun t k => XS.iload X167.here hx rfl (hb hby at_357) rfl  k) ?_
            refine own_go (fun t k => XS.ifNo X167.here hx rfl (hb hby at_359) rfl ((if0 _ _).trans (feq (by decide : ¬ ((1 : Int32) = (0 : Int32)))).1) k) ?_
            show own_Run p e below Φ (T167.setTop (mkF m 362 #[.val (.int p1), .val (.int p2), .val (.int p3), .val (.int p4), .val (.int p5), .val (.ref b1), .val (.ref b9), .val (.ref b18), .val (.ref b28), .val (.ref b39), .val (.int (p2 &&& (3 : Int32))), .val (.int (1 : Int32)), .val (.int (1 : Int32)), .val (.int (1 : Int32)), .val (.int (1 : Int32)), .val (.int (2 : Int32)), .val (.int (own_fd ch3 ch4 ch5))] []))
            refine own_go (fun t k => XS.iload X167.here hx rfl (hb hby at_362) rfl  k) ?_
            refine own_go (fun t k => XS.iload X167.here hx rfl (hb hby at_364) rfl  k) ?_
            have hc366 : (own_fd ch3 ch4 ch5) = (1 : Int32) := (by unfold own_fd; rw [if_neg hc195, if_pos hc215, if_neg hc254])
            refine own_go (fun t k => XS.icmpNo X167.here hx rfl (hb hby at_366) rfl (teq hc366).2 k) ?_
            refine own_go (fun t k => XS.aload X167.here hx rfl (hb hby at_369) rfl rfl  k) ?_
            have F169 : Exa Z h167 b39 "com/example/profitmine/profitmine/io/Fields" := (F80.keep K167)
            refine own_callV X167 hx hZ (y := (⟨"com/example/profitmine/profitmine/io/Fields", "start", "()I"⟩ : MethodName)) (z := (⟨"com/example/profitmine/profitmine/io/Fields", "start", "()I"⟩ : MethodName)) (W := 0) (a := b39) (argsL := []) (rest := []) hown (hw _ (List.mem_of_getElem? (i := 102) rfl)) (hw _ (List.mem_of_getElem? (i := 103) rfl)) (notFace_of_selects (args := #[]) (mvT hZ (hw _ (List.mem_of_getElem? (i := 105) rfl)))) (hw _ (List.mem_of_getElem? (i := 105) rfl)) (hw _ (List.mem_of_getElem? (i := 104) rfl)) (by decide) (own_bk (rm_gstart l Z a0 hw b39 (own_es ch3 ch4 ch5) h167 n0 P167_1) hZ (hw _ (List.mem_of_getElem? (i := 106) rfl)) (hw _ (List.mem_of_getElem? (i := 36) rfl)) (by decide) (by decide)) e167 F169 (g := (mkF m 371 #[.val (.int p1), .val (.int p2), .val (.int p3), .val (.int p4), .val (.int p5), .val (.ref b1), .val (.ref b9), .val (.ref b18), .val (.ref b28), .val (.ref b39), .val (.int (p2 &&& (3 : Int32))), .val (.int (1 : Int32)), .val (.int (1 : Int32)), .val (.int (1 : Int32)), .val (.int (1 : Int32)), .val (.int (2 : Int32)), .val (.int (own_fd ch3 ch4 ch5))] [(.ref b39)])) rfl (by rw [hml]; rfl) (lenOf pd_9 rfl) rfl (by show 2 * 0 + _ ≤ _; exact Nat.le_of_eq rfl) (hb hby at_371) (own_le (Nat.add_le_add_right (Nat.add_le_add_right (Nat.add_le_add_right (Nat.add_le_add_right (Nat.add_le_add_right (Nat.add_le_add_right (Nat.add_le_add_right (Nat.add_le_add_right (Nat.add_le_add_right (Nat.add_le_add_right (Nat.add_le_add_right hc64 0) 0) 0) 0) 0) 0) 0) 0) 0) 0) 0) (by decide)) (own_le (Nat.add_le_add_right (Nat.add_le_add_right (Nat.add_le_add_right (Nat.add_le_add_right (Nat.add_le_add_right (Nat.add_le_add_right (Nat.add_le_add_right (Nat.add_le_add_right (Nat.add_le_add_right (Nat.add_le_add_right (Nat.add_le_add_right hs64 0) 0) 0) 0) 0) 0) 0) 0) 0) 0) 0) (by decide)) (fun v168 T168 h168 L168 X168 e168 q168 => ?_)
            obtain ⟨rfl, M168, s168⟩ := q168
            replace e168 : T168.heap = h167 := e168.trans s168
            have N168 := Fr.app N167 M168
            refine own_go (fun t k => XS.iload X168.here hx rfl (hb hby at_374) rfl  k) ?_
            have hc376 : (own_es ch3 ch4 ch5) = (1 : Int32) := (by unfold own_es; rw [if_neg hc195, if_pos hc215, if_neg hc254])
            refine own_go (fun t k => XS.icmpNo X168.here hx rfl (hb hby at_376) rfl (teq hc376).2 k) ?_
            refine own_go (fun t k => XS.aload X168.here hx rfl (hb hby at_379) rfl rfl  k) ?_
            refine own_callV X168 hx hZ (y := (⟨"com/example/profitmine/profitmine/io/Fields", "end", "()I"⟩ : MethodName)) (z := (⟨"com/example/profitmine/profitmine/io/Fields", "end", "()I"⟩ : MethodName)) (W := 0) (a := b39) (argsL := []) (rest := []) hown (hw _ (List.mem_of_getElem? (i := 107) rfl)) (hw _ (List.mem_of_getElem? (i := 108) rfl)) (notFace_of_selects (args := #[]) (mvT hZ (hw _ (List.mem_of_getElem? (i := 110) rfl)))) (hw _ (List.mem_of_getElem? (i := 110) rfl)) (hw _ (List.mem_of_getElem? (i := 109) rfl)) (by decide) (own_bk (rm_gend l Z a0 hw b39 (own_ee ch3 ch4 ch5) h167 n0 P167_2) hZ (hw _ (List.mem_of_getElem? (i := 111) rfl)) (hw _ (List.mem_of_getElem? (i := 36) rfl)) (by decide) (by decide)) e168 F169 (g := (mkF m 381 #[.val (.int p1), .val (.int p2), .val (.int p3), .val (.int p4), .val (.int p5), .val (.ref b1), .val (.ref b9), .val (.ref b18), .val (.ref b28), .val (.ref b39), .val (.int (p2 &&& (3 : Int32))), .val (.int (1 : Int32)), .val (.int (1 : Int32)), .val (.int (1 : Int32)), .val (.int (1 : Int32)), .val (.int (2 : Int32)), .val (.int (own_fd ch3 ch4 ch5))] [(.ref b39)])) rfl (by rw [hml]; rfl) (lenOf pd_9 rfl) rfl (by show 2 * 0 + _ ≤ _; exact Nat.le_of_eq rfl) (hb hby at_381) (own_le (Nat.add_le_add_right (Nat.add_le_add_right (Nat.add_le_add_right (Nat.add_le_add_right (Nat.add_le_add_right (Nat.add_le_add_right (Nat.add_le_add_right (Nat.add_le_add_right (Nat.add_le_add_right (Nat.add_le_add_right (Nat.add_le_add_right (Nat.add_le_add_right hc64 0) 0) 0) 0) 0) 0) 0) 0) 0) 0) 0) 0) (by decide)) (own_le (Nat.add_le_add_right (Nat.add_le_add_right (Nat.add_le_add_right (Nat.add_le_add_right (Nat.add_le_add_right (Nat.add_le_add_right (Nat.add_le_add_right (Nat.add_le_add_right (Nat.add_le_add_right (Nat.add_le_add_right (Nat.add_le_add_right (Nat.add_le_add_right hs64 0) 0) 0) 0) 0) 0) 0) 0) 0) 0) 0) 0) (by decide)) (fun v170 T170 h170 L170 X170 e170 q170 => ?_)
            obtain ⟨rfl, M170, s170⟩ := q170
            replace e170 : T170.heap = h167 := e170.trans s170
            have N170 := Fr.app N168 M170
            show own_Run p e below Φ (T170.setTop (mkF m 384 #[.val (.int p1), .val (.int p2), .val (.int p3), .val (.int p4), .val (.int p5), .val (.ref b1), .val (.ref b9), .val (.ref b18), .val (.ref b28), .val (.ref b39), .val (.int (p2 &&& (3 : Int32))), .val (.int (1 : Int32)), .val (.int (1 : Int32)), .val (.int (1 : Int32)), .val (.int (1 : Int32)), .val (.int (2 : Int32)), .val (.int (own_fd ch3 ch4 ch5))] [(.int (own_ee ch3 ch4 ch5))]))
            refine own_go (fun t k => XS.iload X170.here hx rfl (hb hby at_384) rfl  k) ?_
            have hc386 : (own_ee ch3 ch4 ch5) = (2 : Int32) := (by unfold own_ee; rw [if_neg hc195, if_pos hc215, if_neg hc254, if_neg hc311])
            refine own_go (fun t k => XS.icmpNo X170.here hx rfl (hb hby at_386) rfl (teq hc386).2 k) ?_
            refine own_go (fun t k => XS.aload X170.here hx rfl (hb hby at_389) rfl rfl  k) ?_
            refine own_callV X170 hx hZ (y := (⟨"com/example/profitmine/profitmine/io/Fields", "line", "()Ljava/lang/String;"⟩ : MethodName)) (z := (⟨"com/example/profitmine/profitmine/io/Fields", "line", "()Ljava/lang/String;"⟩ : MethodName)) (W := 0) (a := b39) (argsL := []) (rest := []) hown (hw _ (List.mem_of_getElem? (i := 97) rfl)) (hw _ (List.mem_of_getElem? (i := 98) rfl)) (notFace_of_selects (args := #[]) (mvT hZ (hw _ (List.mem_of_getElem? (i := 100) rfl)))) (hw _ (List.mem_of_getElem? (i := 100) rfl)) (hw _ (List.mem_of_getElem? (i := 99) rfl)) (by decide) (own_bk (rm_gline l Z a0 hw b39 b28 h167 n0 P167_0) hZ (hw _ (List.mem_of_getElem? (i := 101) rfl)) (hw _ (List.mem_of_getElem? (i := 36) rfl)) (by decide) (by decide)) e170 F169 (g := (mkF m 391 #[.val (.int p1), .val (.int p2), .val (.int p3), .val (.int p4), .val (.int p5), .val (.ref b1), .val (.ref b9), .val (.ref b18), .val (.ref b28), .val (.ref b39), .val (.int (p2 &&& (3 : Int32))), .val (.int (1 : Int32)), .val (.int (1 : Int32)), .val (.int (1 : Int32)), .val (.int (1 : Int32)), .val (.int (2 : Int32)), .val (.int (own_fd ch3 ch4 ch5))] [(.ref b39)])) rfl (by rw [hml]; rfl) (lenOf pd_15 rfl) rfl (by show 2 * 0 + _ ≤ _; exact Nat.le_of_eq rfl) (hb hby at_391) (own_le (Nat.add_le_add_right (Nat.add_le_add_right (Nat.add_le_add_right (Nat.add_le_add_right (Nat.add_le_add_right (Nat.add_le_add_right (Nat.add_le_add_right (Nat.add_le_add_right (Nat.add_le_add_right (Nat.add_le_add_right (Nat.add_le_add_right (Nat.add_le_add_right (Nat.add_le_add_right hc64 0) 0) 0) 0) 0) 0) 0) 0) 0) 0) 0) 0) 0) (by decide)) (own_le (Nat.add_le_add_right (Nat.add_le_add_right (Nat.add_le_add_right (Nat.add_le_add_right (Nat.add_le_add_right (Nat.add_le_add_right (Nat.add_le_add_right (Nat.add_le_add_right (Nat.add_le_add_right (Nat.add_le_add_right (Nat.add_le_add_right (Nat.add_le_add_right (Nat.add_le_add_right hs64 0) 0) 0) 0) 0) 0) 0) 0) 0) 0) 0) 0) 0) (by decide)) (fun v171 T171 h171 L171 X171 e171 q171 => ?_)
            obtain ⟨rfl, M171, s171⟩ := q171
            replace e171 : T171.heap = h167 := e171.trans s171
            have N171 := Fr.app N170 M171
            refine own_go (fun t k => XS.aload X171.here hx rfl (hb hby at_394) rfl rfl  k) ?_
            refine own_go (fun t k => Jvm.RoadKit.acmp (g := (mkF m 396 #[.val (.int p1), .val (.int p2), .val (.int p3), .val (.int p4), .val (.int p5), .val (.ref b1), .val (.ref b9), .val (.ref b18), .val (.ref b28), .val (.ref b39), .val (.int (p2 &&& (3 : Int32))), .val (.int (1 : Int32)), .val (.int (1 : Int32)), .val (.int (1 : Int32)), .val (.int (1 : Int32)), .val (.int (2 : Int32)), .val (.int (own_fd ch3 ch4 ch5))] [(.ref b28), (.ref b28)])) X171 hx rfl rfl rfl (pc0 := 396) (pc' := 399) (same := true) rfl (hb hby at_396) rfl (decide_eq_true rfl) (by decide) (by decide) k) ?_
            refine own_go (fun t k => XS.iconst X171.here hx rfl (hb hby at_399) k) ?_
            refine own_go (fun t k => XS.goto X171.here hx rfl (pc0 := 400) (pc' := 404) rfl (hb hby at_400) (by decide) (by decide) k) ?_
            have F172 : ky50 ≤ h167.size := (Nat.le_trans (Nat.le_trans F74 K78.1) K167.1)
            subst hΦ
            exact own_retNW X171 hx (t := .boolean) Bd.returns (by simp) hlk (hb hby at_404) e171 hS50 F172 ⟨rfl, N171⟩ (Nat.le_trans (Nat.add_le_add_right (Nat.add_le_add_right (Nat.add_le_add_right (Nat.add_le_add_right (Nat.add_le_add_right (Nat.add_le_add_right (Nat.add_le_add_right (Nat.add_le_add_right (Nat.add_le_add_right (Nat.add_le_add_right (Nat.add_le_add_right (Nat.add_le_add_right (Nat.add_le_add_right (Nat.add_le_add_right hc64 0) 0) 0) 0) 0) 0) 0) 0) 0) 0) 0) 0) 0) 0) (by decide)) (Nat.le_trans (Nat.add_le_add_right (Nat.add_le_add_right (Nat.add_le_add_right (Nat.add_le_add_right (Nat.add_le_add_right (Nat.add_le_add_right (Nat.add_le_add_right (Nat.add_le_add_right (Nat.add_le_add_right (Nat.add_le_add_right (Nat.add_le_add_right (Nat.add_le_add_right (Nat.add_le_add_right (Nat.add_le_add_right hs64 0) 0) 0) 0) 0) 0) 0) 0) 0) 0) 0) 0) 0) 0) (by decide))
      · refine own_go (fun t k => XS.ifNo X135.here hx rfl (hb hby at_215) rfl ((if0 _ _).trans (feq hc215).1) k) ?_
        show own_Run p e below Φ (T135.setTop (mkF m 218 #[.val (.int p1), .val (.int p2), .val (.int p3), .val (.int p4), .val (.int p5), .val (.ref b1), .val (.ref b9), .val (.ref b18), .val (.ref b28), .val (.ref b39), .val (.int (p2 &&& (3 : Int32))), .val (.int (1 : Int32)), .val (.int (1 : Int32)), .unset, .unset, .unset, .unset] []))
        refine own_go (fun t k => XS.iinc X135.here hx rfl (hb hby at_218) rfl (l' := #[.val (.int p1), .val (.int p2), .val (.int p3), .val (.int p4), .val (.int p5), .val (.ref b1), .val (.ref b9), .val (.ref b18), .val (.ref b28), .val (.ref b39), .val (.int (p2 &&& (3 : Int32))), .val (.int (1 : Int32)), .val (.int ((1 : Int32) + (1 : Int32))), .unset, .unset, .unset, .unset]) rfl k) ?_
        show own_Run p e below Φ (T135.setTop (mkF m 221 #[.val (.int p1), .val (.int p2), .val (.int p3), .val (.int p4), .val (.int p5), .val (.ref b1), .val (.ref b9), .val (.ref b18), .val (.ref b28), .val (.ref b39), .val (.int (p2 &&& (3 : Int32))), .val (.int (1 : Int32)), .val (.int ((1 : Int32) + (1 : Int32))), .unset, .unset, .unset, .unset] []))
        rw [show ((1 : Int32) + (1 : Int32)) = (2 : Int32) from by decide]
        show own_Run p e below Φ (T135.setTop (mkF m 221 #[.val (.int p1), .val (.int p2), .val (.int p3), .val (.int p4), .val (.int p5), .val (.ref b1), .val (.ref b9), .val (.ref b18), .val (.ref b28), .val (.ref b39), .val (.int (p2 &&& (3 : Int32))), .val (.int (1 : Int32)), .val (.int (2 : Int32)), .unset, .unset, .unset, .unset] []))
        refine own_go (fun t k => XS.iload X135.here hx rfl (hb hby at_221) rfl  k) ?_
        refine own_go (fun t k => XS.iconst X135.here hx rfl (hb hby at_223) k) ?_
        refine own_go (fun t k => XS.icmpNo X135.here hx rfl (hb hby at_224) rfl (tlt (by decide : (2 : Int32) < (3 : Int32))).2.1 k) ?_
        refine own_go (fun t k => XS.aload X135.here hx rfl (hb hby at_227) rfl rfl  k) ?_
        refine own_go (fun t k => XS.iload X135.here hx rfl (hb hby at_229) rfl  k) ?_
        refine own_caload X135 hx hZ e135 F83 (j := (2 : Int32)) (v := (.int ch5)) ⟨by decide, by decide⟩ rfl (g := (mkF m 231 #[.val (.int p1), .val (.int p2), .val (.int p3), .val (.int p4), .val (.int p5), .val (.ref b1), .val (.ref b9), .val (.ref b18), .val (.ref b28), .val (.ref b39), .val (.int (p2 &&& (3 : Int32))), .val (.int (1 : Int32)), .val (.int (2 : Int32)), .unset, .unset, .unset, .unset] [(.int (2 : Int32)), (.ref b9)])) rfl rfl (hb hby at_231) ?_
        refine own_callS X135 hx hZ (y := (⟨"com/example/profitmine/profitmine/io/FieldsWalkPinLaw", "blank", "(C)Z"⟩ : MethodName)) (W := 0) (argsL := [(.int ch5)]) (rest := []) hown (hw _ (List.mem_of_getElem? (i := 112) rfl)) (hw _ (List.mem_of_getElem? (i := 113) rfl)) (hw _ (List.mem_of_getElem? (i := 3) rfl)) (hw _ (List.mem_of_getElem? (i := 114) rfl)) (by decide) (own_bk (rm_bl l Z a0 hw ch5 h78 n0 ) hZ (hw _ (List.mem_of_getElem? (i := 114) rfl)) (hw _ (List.mem_of_getElem? (i := 3) rfl)) (by decide) (by decide)) e135 (g := (mkF m 232 #[.val (.int p1), .val (.int p2), .val (.int p3), .val (.int p4), .val (.int p5), .val (.ref b1), .val (.ref b9), .val (.ref b18), .val (.ref b28), .val (.ref b39), .val (.int (p2 &&& (3 : Int32))), .val (.int (1 : Int32)), .val (.int (2 : Int32)), .unset, .unset, .unset, .unset] [(.int ch5)])) rfl (by rw [hml]; rfl) (lenOf pd_14 rfl) rfl (by show 2 * 0 + _ ≤ _; exact Nat.le_of_eq rfl) (hb hby at_232) (own_le (Nat.add_le_add_right (Nat.add_le_add_right (Nat.add_le_add_right (Nat.add_le_add_right (Nat.add_le_add_right (Nat.add_le_add_right hc64 0) 0) 0) 0) 0) 0) (by decide)) (own_le (Nat.add_le_add_right (Nat.add_le_add_right (Nat.add_le_add_right (Nat.add_le_add_right (Nat.add_le_add_right (Nat.add_le_add_right hs64 0) 0) 0) 0) 0) 0) (by decide)) (fun v173 T173 h173 L173 X173 e173 q173 => ?_)
        obtain ⟨rfl, M173, s173⟩ := q173
        replace e173 : T173.heap = h78 := e173.trans s173
        have N173 := Fr.app N135 M173
        by_cases hc235 : (own_blk ch5) = (0 : Int32)
        · refine own_go (fun t k => XS.ifYes X173.here hx rfl (pc0 := 235) (pc' := 241) rfl (hb hby at_235) rfl ((if0 _ _).trans (teq hc235).1) (by decide) (by decide) k) ?_
          refine own_go (fun t k => XS.iload X173.here hx rfl (hb hby at_241) rfl  k) ?_
          show own_Run p e below Φ (T173.setTop (mkF m 243 #[.val (.int p1), .val (.int p2), .val (.int p3), .val (.int p4), .val (.int p5), .val (.ref b1), .val (.ref b9), .val (.ref b18), .val (.ref b28), .val (.ref b39), .val (.int (p2 &&& (3 : Int32))), .val (.int (1 : Int32)), .val (.int (2 : Int32)), .unset, .unset, .unset, .unset] [(.int (2 : Int32))]))
          refine own_go (fun t k => XS.iconst X173.here hx rfl (hb hby at_243) k) ?_
          refine own_go (fun t k => XS.icmpNo X173.here hx rfl (hb hby at_244) rfl (tlt (by decide : (2 : Int32) < (3 : Int32))).2.1 k) ?_
          refine own_go (fun t k => XS.aload X173.here hx rfl (hb hby at_247) rfl rfl  k) ?_
          refine own_go (fun t k => XS.iload X173.here hx rfl (hb hby at_249) rfl  k) ?_
          refine own_caload X173 hx hZ e173 F83 (j := (2 : Int32)) (v := (.int ch5)) ⟨by decide, by decide⟩ rfl (g := (mkF m 251 #[.val (.int p1), .val (.int p2), .val (.int p3), .val (.int p4), .val (.int p5), .val (.ref b1), .val (.ref b9), .val (.ref b18), .val (.ref b28), .val (.ref b39), .val (.int (p2 &&& (3 : Int32))), .val (.int (1 : Int32)), .val (.int (2 : Int32)), .unset, .unset, .unset, .unset] [(.int (2 : Int32)), (.ref b9)])) rfl rfl (hb hby at_251) ?_
          refine own_go (fun t k => XS.bipush X173.here hx rfl (hb hby at_252) k) ?_
          by_cases hc254 : ch5 = (35 : Int32)
          · refine own_go (fun t k => XS.icmpYes X173.here hx rfl (pc0 := 254) (pc' := 261) rfl (hb hby at_254) rfl (teq hc254).1 (by decide) (by decide) k) ?_
            refine own_go (fun t k => XS.iconst X173.here hx rfl (hb hby at_261) k) ?_
            refine own_go (fun t k => XS.istore X173.here hx rfl (hb hby at_262) rfl (l' := #[.val (.int p1), .val (.int p2), .val (.int p3), .val (.int p4), .val (.int p5), .val (.ref b1), .val (.ref b9), .val (.ref b18), .val (.ref b28), .val (.ref b39), .val (.int (p2 &&& (3 : Int32))), .val (.int (1 : Int32)), .val (.int (2 : Int32)), .val (.int (0 : Int32)), .unset, .unset, .unset]) rfl k) ?_
            show own_Run p e below Φ (T173.setTop (mkF m 264 #[.val (.int p1), .val (.int p2), .val (.int p3), .val (.int p4), .val (.int p5), .val (.ref b1), .val (.ref b9), .val (.ref b18), .val (.ref b28), .val (.ref b39), .val (.int (p2 &&& (3 : Int32))), .val (.int (1 : Int32)), .val (.int (2 : Int32)), .val (.int (0 : Int32)), .unset, .unset, .unset] []))
            refine own_go (fun t k => XS.iload X173.here hx rfl (hb hby at_264) rfl  k) ?_
            refine own_go (fun t k => XS.ifYes X173.here hx rfl (pc0 := 266) (pc' := 344) rfl (hb hby at_266) rfl ((if0 _ _).trans (teq (rfl : (0 : Int32) = (0 : Int32))).1) (by decide) (by decide) k) ?_
            refine own_go (fun t k => XS.iconst X173.here hx rfl (hb hby at_344) k) ?_
            refine own_go (fun t k => XS.istore X173.here hx rfl (hb hby at_345) rfl (l' := #[.val (.int p1), .val (.int p2), .val (.int p3), .val (.int p4), .val (.int p5), .val (.ref b1), .val (.ref b9), .val (.ref b18), .val (.ref b28), .val (.ref b39), .val (.int (p2 &&& (3 : Int32))), .val (.int (1 : Int32)), .val (.int (2 : Int32)), .val (.int (0 : Int32)), .val (.int (3 : Int32)), .unset, .unset]) rfl k) ?_
            refine own_go (fun t k => XS.iconst X173.here hx rfl (hb hby at_347) k) ?_
            refine own_go (fun t k => XS.istore X173.here hx rfl (hb hby at_348) rfl (l' := #[.val (.int p1), .val (.int p2), .val (.int p3), .val (.int p4), .val (.int p5), .val (.ref b1), .val (.ref b9), .val (.ref b18), .val (.ref b28), .val (.ref b39), .val (.int (p2 &&& (3 : Int32))), .val (.int (1 : Int32)), .val (.int (2 : Int32)), .val (.int (0 : Int32)), .val (.int (3 : Int32)), .val (.int (3 : Int32)), .unset]) rfl k) ?_
            refine own_go (fun t k => XS.aload X173.here hx rfl (hb hby at_350) rfl rfl  k) ?_
            have F174 : Old Z n0 h78 := (F73.keep K78 (allS (Nat.le_trans F40 (Nat.le_of_eq g39.symm)) all0))
            have F175 : Exa Z h78 b28 "java/lang/String" := (F67.keep K78)
            have F176 : Fld Z h78 b28 "java/lang/String" "value" "[B" (.ref t38) := (F68.keep K78 (ninS ne_b28_b39 nin0))
            have F177 : Fld Z h78 b28 "java/lang/String" "coder" "B" (.int 0) := (F69.keep K78 (ninS ne_b28_b39 nin0))
            have F178 : Arv Z h78 t38 kb38 .byte (3 : Int32) [(.int (ch3.toInt8.toInt32)), (.int (ch4.toInt8.toInt32)), (.int (ch5.toInt8.toInt32))] (.int 0) := (F70.keep K78 (ninS ne_t38_b39 nin0))
            refine own_callV X173 hx hZ (y := (⟨"com/example/profitmine/profitmine/io/Fields", "next", "()Z"⟩ : MethodName)) (z := (⟨"com/example/profitmine/profitmine/io/Fields", "next", "()Z"⟩ : MethodName)) (W := 0) (a := b39) (argsL := []) (rest := []) hown (hw _ (List.mem_of_getElem? (i := 57) rfl)) (hw _ (List.mem_of_getElem? (i := 58) rfl)) (notFace_of_selects (args := #[]) (mvT hZ (hw _ (List.mem_of_getElem? (i := 60) rfl)))) (hw _ (List.mem_of_getElem? (i := 60) rfl)) (hw _ (List.mem_of_getElem? (i := 59) rfl)) (by decide) (own_bk (rm_nb l Z a0 hw b39 b28 t38 kb38 ch3 ch4 ch5 G1 G3 (0 : Int32) h78 n0 F80 P78_0 P78_2 P78_3 P78_1 F174 S0 P5 S1 R3 F175 F176 F177 F178 (Nat.le_trans F40 (Nat.le_of_eq g39.symm)) ne_b28_b39 ne_t38_b39 ⟨hch3, hch4, hch5⟩) hZ (hw _ (List.mem_of_getElem? (i := 61) rfl)) (hw _ (List.mem_of_getElem? (i := 36) rfl)) (by decide) (by decide)) e173 F80 (g := (mkF m 352 #[.val (.int p1), .val (.int p2), .val (.int p3), .val (.int p4), .val (.int p5), .val (.ref b1), .val (.ref b9), .val (.ref b18), .val (.ref b28), .val (.ref b39), .val (.int (p2 &&& (3 : Int32))), .val (.int (1 : Int32)), .val (.int (2 : Int32)), .val (.int (0 : Int32)), .val (.int (3 : Int32)), .val (.int (3 : Int32)), .unset] [(.ref b39)])) rfl (by rw [hml]; rfl) (lenOf pd_8 rfl) rfl (by show 2 * 0 + _ ≤ _; exact Nat.le_of_eq rfl) (hb hby at_352) (own_le (Nat.add_le_add_right (Nat.add_le_add_right (Nat.add_le_add_right (Nat.add_le_add_right (Nat.add_le_add_right (Nat.add_le_add_right (Nat.add_le_add_right hc64 0) 0) 0) 0) 0) 0) 0) (by decide)) (own_le (Nat.add_le_add_right (Nat.add_le_add_right (Nat.add_le_add_right (Nat.add_le_add_right (Nat.add_le_add_right (Nat.add_le_add_right (Nat.add_le_add_right hs64 0) 0) 0) 0) 0) 0) 0) (by decide)) (fun v179 T179 h179 L179 X179 e179 q179 => ?_)
            obtain ⟨rfl, M179, K179, P179_0, P179_1, P179_2⟩ := q179
            have N179 := Fr.app N173 M179
            refine own_go (fun t k => XS.istore X179.here hx rfl (hb hby at_355) rfl (l' := #[.val (.int p1), .val (.int p2), .val (.int p3), .val (.int p4), .val (.int p5), .val (.ref b1), .val (.ref b9), .val (.ref b18), .val (.ref b28), .val (.ref b39), .val (.int (p2 &&& (3 : Int32))), .val (.int (1 : Int32)), .val (.int (2 : Int32)), .val (.int (0 : Int32)), .val (.int (3 : Int32)), .val (.int (3 : Int32)), .val (.int (own_fd ch3 ch4 ch5))]) rfl k) ?_
            show own_Run p e below Φ (T179.setTop (mkF m 357 #[.val (.int p1), .val (.int p2), .val (.int p3), .val (.int p4), .val (.int p5), .val (.ref b1), .val (.ref b9), .val (.ref b18), .val (.ref b28), .val (.ref b39), .val (.int (p2 &&& (3 : Int32))), .val (.int (1 : Int32)), .val (.int (2 : Int32)), .val (.int (0 : Int32)), .val (.int (3 : Int32)), .val (.int (3 : Int32)), .val (.int (own_fd ch3 ch4 ch5))] []))
            refine own_go (fun t k => XS.iload X179.here hx rfl (hb hby at_357) rfl  k) ?_
            refine own_go (fun t k => XS.ifNo X179.here hx rfl (hb hby at_359) rfl ((if0 _ _).trans (feq (by decide : ¬ ((1 : Int32) = (0 : Int32)))).1) k) ?_
            refine own_go (fun t k => XS.iload X179.here hx rfl (hb hby at_362) rfl  k) ?_
            refine own_go (fun t k => XS.iload X179.here hx rfl (hb hby at_364) rfl  k) ?_
            have hc366 : (own_fd ch3 ch4 ch5) = (0 : Int32) := (by unfold own_fd; rw [if_neg hc195, if_neg hc215, if_pos hc235, if_pos hc254])
            refine own_go (fun t k => XS.icmpNo X179.here hx rfl (hb hby at_366) rfl (teq hc366).2 k) ?_
            refine own_go (fun t k => XS.aload X179.here hx rfl (hb hby at_369) rfl rfl  k) ?_
            have F181 : Exa Z h179 b39 "com/example/profitmine/profitmine/io/Fields" := (F80.keep K179)
            refine own_callV X179 hx hZ (y := (⟨"com/example/profitmine/profitmine/io/Fields", "start", "()I"⟩ : MethodName)) (z := (⟨"com/example/profitmine/profitmine/io/Fields", "start", "()I"⟩ : MethodName)) (W := 0) (a := b39) (argsL := []) (rest := []) hown (hw _ (List.mem_of_getElem? (i := 102) rfl)) (hw _ (List.mem_of_getElem? (i := 103) rfl)) (notFace_of_selects (args := #[]) (mvT hZ (hw _ (List.mem_of_getElem? (i := 105) rfl)))) (hw _ (List.mem_of_getElem? (i := 105) rfl)) (hw _ (List.mem_of_getElem? (i := 104) rfl)) (by decide) (own_bk (rm_gstart l Z a0 hw b39 (own_es ch3 ch4 ch5) h179 n0 P179_1) hZ (hw _ (List.mem_of_getElem? (i := 106) rfl)) (hw _ (List.mem_of_getElem? (i := 36) rfl)) (by decide) (by decide)) e179 F181 (g := (mkF m 371 #[.val (.int p1), .val (.int p2), .val (.int p3), .val (.int p4), .val (.int p5), .val (.ref b1), .val (.ref b9), .val (.ref b18), .val (.ref b28), .val (.ref b39), .val (.int (p2 &&& (3 : Int32))), .val (.int (1 : Int32)), .val (.int (2 : Int32)), .val (.int (0 : Int32)), .val (.int (3 : Int32)), .val (.int (3 : Int32)), .val (.int (own_fd ch3 ch4 ch5))] [(.ref b39)])) rfl (by rw [hml]; rfl) (lenOf pd_9 rfl) rfl (by show 2 * 0 + _ ≤ _; exact Nat.le_of_eq rfl) (hb hby at_371) (own_le (Nat.add_le_add_right (Nat.add_le_add_right (Nat.add_le_add_right (Nat.add_le_add_right (Nat.add_le_add_right (Nat.add_le_add_right (Nat.add_le_add_right (Nat.add_le_add_right hc64 0) 0) 0) 0) 0) 0) 0) 0) (by decide)) (own_le (Nat.add_le_add_right (Nat.add_le_add_right (Nat.add_le_add_right (Nat.add_le_add_right (Nat.add_le_add_right (Nat.add_le_add_right (Nat.add_le_add_right (Nat.add_le_add_right hs64 0) 0) 0) 0) 0) 0) 0) 0) (by decide)) (fun v180 T180 h180 L180 X180 e180 q180 => ?_)
            obtain ⟨rfl, M180, s180⟩ := q180
            replace e180 : T180.heap = h179 := e180.trans s180
            have N180 := Fr.app N179 M180
            refine own_go (fun t k => XS.iload X180.here hx rfl (hb hby at_374) rfl  k) ?_
            have hc376 : (own_es ch3 ch4 ch5) = (3 : Int32) := (by unfold own_es; rw [if_neg hc195, if_neg hc215, if_pos hc235, if_pos hc254])
            refine own_go (fun t k => XS.icmpNo X180.here hx rfl (hb hby at_376) rfl (teq hc376).2 k) ?_
            show own_Run p e below Φ (T180.setTop (mkF m 379 #[.val (.int p1), .val (.int p2), .val (.int p3), .val (.int p4), .val (.int p5), .val (.ref b1), .val (.ref b9), .val (.ref b18), .val (.ref b28), .val (.ref b39), .val (.int (p2 &&& (3 : Int32))), .val (.int (1 : Int32)), .val (.int (2 : Int32)), .val (.int (0 : Int32)), .val (.int (3 : Int32)), .val (.int (3 : Int32)), .val (.int (own_fd ch3 ch4 ch5))] []))
            refine own_go (fun t k => XS.aload X180.here hx rfl (hb hby at_379) rfl rfl  k) ?_
            refine own_callV X180 hx hZ (y := (⟨"com/example/profitmine/profitmine/io/Fields", "end", "()I"⟩ : MethodName)) (z := (⟨"com/example/profitmine/profitmine/io/Fields", "end", "()I"⟩ : MethodName)) (W := 0) (a := b39) (argsL := []) (rest := []) hown (hw _ (List.mem_of_getElem? (i := 107) rfl)) (hw _ (List.mem_of_getElem? (i := 108) rfl)) (notFace_of_selects (args := #[]) (mvT hZ (hw _ (List.mem_of_getElem? (i := 110) rfl)))) (hw _ (List.mem_of_getElem? (i := 110) rfl)) (hw _ (List.mem_of_getElem? (i := 109) rfl)) (by decide) (own_bk (rm_gend l Z a0 hw b39 (own_ee ch3 ch4 ch5) h179 n0 P179_2) hZ (hw _ (List.mem_of_getElem? (i := 111) rfl)) (hw _ (List.mem_of_getElem? (i := 36) rfl)) (by decide) (by decide)) e180 F181 (g := (mkF m 381 #[.val (.int p1), .val (.int p2), .val (.int p3), .val (.int p4), .val (.int p5), .val (.ref b1), .val (.ref b9), .val (.ref b18), .val (.ref b28), .val (.ref b39), .val (.int (p2 &&& (3 : Int32))), .val (.int (1 : Int32)), .val (.int (2 : Int32)), .val (.int (0 : Int32)), .val (.int (3 : Int32)), .val (.int (3 : Int32)), .val (.int (own_fd ch3 ch4 ch5))] [(.ref b39)])) rfl (by rw [hml]; rfl) (lenOf pd_9 rfl) rfl (by show 2 * 0 + _ ≤ _; exact Nat.le_of_eq rfl) (hb hby at_381) (own_le (Nat.add_le_add_right (Nat.add_le_add_right (Nat.add_le_add_right (Nat.add_le_add_right (Nat.add_le_add_right (Nat.add_le_add_right (Nat.add_le_add_right (Nat.add_le_add_right (Nat.add_le_add_right hc64 0) 0) 0) 0) 0) 0) 0) 0) 0) (by decide)) (own_le (Nat.add_le_add_right (Nat.add_le_add_right (Nat.add_le_add_right (Nat.add_le_add_right (Nat.add_le_add_right (Nat.add_le_add_right (Nat.add_le_add_right (Nat.add_le_add_right (Nat.add_le_add_right hs64 0) 0) 0) 0) 0) 0) 0) 0) 0) (by decide)) (fun v182 T182 h182 L182 X182 e182 q182 => ?_)
            obtain ⟨rfl, M182, s182⟩ := q182
            replace e182 : T182.heap = h179 := e182.trans s182
            have N182 := Fr.app N180 M182
            refine own_go (fun t k => XS.iload X182.here hx rfl (hb hby at_384) rfl  k) ?_
            have hc386 : (own_ee ch3 ch4 ch5) = (3 : Int32) := (by unfold own_ee; rw [if_neg hc195, if_neg hc215, if_pos hc235, if_pos hc254])
            refine own_go (fun t k => XS.icmpNo X182.here hx rfl (hb hby at_386) rfl (teq hc386).2 k) ?_
            refine own_go (fun t k => XS.aload X182.here hx rfl (hb hby at_389) rfl rfl  k) ?_
            refine own_callV X182 hx hZ (y := (⟨"com/example/profitmine/profitmine/io/Fields", "line", "()Ljava/lang/String;"⟩ : MethodName)) (z := (⟨"com/example/profitmine/profitmine/io/Fields", "line", "()Ljava/lang/String;"⟩ : MethodName)) (W := 0) (a := b39) (argsL := []) (rest := []) hown (hw _ (List.mem_of_getElem? (i := 97) rfl)) (hw _ (List.mem_of_getElem? (i := 98) rfl)) (notFace_of_selects (args := #[]) (mvT hZ (hw _ (List.mem_of_getElem? (i := 100) rfl)))) (hw _ (List.mem_of_getElem? (i := 100) rfl)) (hw _ (List.mem_of_getElem? (i := 99) rfl)) (by decide) (own_bk (rm_gline l Z a0 hw b39 b28 h179 n0 P179_0) hZ (hw _ (List.mem_of_getElem? (i := 101) rfl)) (hw _ (List.mem_of_getElem? (i := 36) rfl)) (by decide) (by decide)) e182 F181 (g := (mkF m 391 #[.val (.int p1), .val (.int p2), .val (.int p3), .val (.int p4), .val (.int p5), .val (.ref b1), .val (.ref b9), .val (.ref b18), .val (.ref b28), .val (.ref b39), .val (.int (p2 &&& (3 : Int32))), .val (.int (1 : Int32)), .val (.int (2 : Int32)), .val (.int (0 : Int32)), .val (.int (3 : Int32)), .val (.int (3 : Int32)), .val (.int (own_fd ch3 ch4 ch5))] [(.ref b39)])) rfl (by rw [hml]; rfl) (lenOf pd_15 rfl) rfl (by show 2 * 0 + _ ≤ _; exact Nat.le_of_eq rfl) (hb hby at_391) (own_le (Nat.add_le_add_right (Nat.add_le_add_right (Nat.add_le_add_right (Nat.add_le_add_right (Nat.add_le_add_right (Nat.add_le_add_right (Nat.add_le_add_right (Nat.add_le_add_right (Nat.add_le_add_right (Nat.add_le_add_right hc64 0) 0) 0) 0) 0) 0) 0) 0) 0) 0) (by decide)) (own_le (Nat.add_le_add_right (Nat.add_le_add_right (Nat.add_le_add_right (Nat.add_le_add_right (Nat.add_le_add_right (Nat.add_le_add_right (Nat.add_le_add_right (Nat.add_le_add_right (Nat.add_le_add_right (Nat.add_le_add_right hs64 0) 0) 0) 0) 0) 0) 0) 0) 0) 0) (by decide)) (fun v183 T183 h183 L183 X183 e183 q183 => ?_)
            obtain ⟨rfl, M183, s183⟩ := q183
            replace e183 : T183.heap = h179 := e183.trans s183
            have N183 := Fr.app N182 M183
            refine own_go (fun t k => XS.aload X183.here hx rfl (hb hby at_394) rfl rfl  k) ?_
            refine own_go (fun t k => Jvm.RoadKit.acmp (g := (mkF m 396 #[.val (.int p1), .val (.int p2), .val (.int p3), .val (.int p4), .val (.int p5), .val (.ref b1), .val (.ref b9), .val (.ref b18), .val (.ref b28), .val (.ref b39), .val (.int (p2 &&& (3 : Int32))), .val (.int (1 : Int32)), .val (.int (2 : Int32)), .val (.int (0 : Int32)), .val (.int (3 : Int32)), .val (.int (3 : Int32)), .val (.int (own_fd ch3 ch4 ch5))] [(.ref b28), (.ref b28)])) X183 hx rfl rfl rfl (pc0 := 396) (pc' := 399) (same := true) rfl (hb hby at_396) rfl (decide_eq_true rfl) (by decide) (by decide) k) ?_
            refine own_go (fun t k => XS.iconst X183.here hx rfl (hb hby at_399) k) ?_
            show own_Run p e below Φ (T183.setTop (mkF m 400 #[.val (.int p1), .val (.int p2), .val (.int p3), .val (.int p4), .val (.int p5), .val (.ref b1), .val (.ref b9), .val (.ref b18), .val (.ref b28), .val (.ref b39), .val (.int (p2 &&& (3 : Int32))), .val (.int (1 : Int32)), .val (.int (2 : Int32)), .val (.int (0 : Int32)), .val (.int (3 : Int32)), .val (.int (3 : Int32)), .val (.int (own_fd ch3 ch4 ch5))] [(.int (1 : Int32))]))
            refine own_go (fun t k => XS.goto X183.here hx rfl (pc0 := 400) (pc' := 404) rfl (hb hby at_400) (by decide) (by decide) k) ?_
            have F184 : ky50 ≤ h179.size := (Nat.le_trans (Nat.le_trans F74 K78.1) K179.1)
            subst hΦ
            exact own_retNW X183 hx (t := .boolean) Bd.returns (by simp) hlk (hb hby at_404) e183 hS50 F184 ⟨rfl, N183⟩ (Nat.le_trans (Nat.add_le_add_right (Nat.add_le_add_right (Nat.add_le_add_right (Nat.add_le_add_right (Nat.add_le_add_right (Nat.add_le_add_right (Nat.add_le_add_right (Nat.add_le_add_right (Nat.add_le_add_right (Nat.add_le_add_right (Nat.add_le_add_right hc64 0) 0) 0) 0) 0) 0) 0) 0) 0) 0) 0) (by decide)) (Nat.le_trans (Nat.add_le_add_right (Nat.add_le_add_right (Nat.add_le_add_right (Nat.add_le_add_right (Nat.add_le_add_right (Nat.add_le_add_right (Nat.add_le_add_right (Nat.add_le_add_right (Nat.add_le_add_right (Nat.add_le_add_right (Nat.add_le_add_right hs64 0) 0) 0) 0) 0) 0) 0) 0) 0) 0) 0) (by decide))
          · refine own_go (fun t k => XS.icmpNo X173.here hx rfl (hb hby at_254) rfl (feq hc254).1 k) ?_
            refine own_go (fun t k => XS.iconst X173.here hx rfl (hb hby at_257) k) ?_
            refine own_go (fun t k => XS.goto X173.here hx rfl (pc0 := 258) (pc' := 262) rfl (hb hby at_258) (by decide) (by decide) k) ?_
            refine own_go (fun t k => XS.istore X173.here hx rfl (hb hby at_262) rfl (l' := #[.val (.int p1), .val (.int p2), .val (.int p3), .val (.int p4), .val (.int p5), .val (.ref b1), .val (.ref b9), .val (.ref b18), .val (.ref b28), .val (.ref b39), .val (.int (p2 &&& (3 : Int32))), .val (.int (1 : Int32)), .val (.int (2 : Int32)), .val (.int (1 : Int32)), .unset, .unset, .unset]) rfl k) ?_
            refine own_go (fun t k => XS.iload X173.here hx rfl (hb hby at_264) rfl  k) ?_
            refine own_go (fun t k => XS.ifNo X173.here hx rfl (hb hby at_266) rfl ((if0 _ _).trans (feq (by decide : ¬ ((1 : Int32) = (0 : Int32)))).1) k) ?_
            refine own_go (fun t k => XS.iload X173.here hx rfl (hb hby at_269) rfl  k) ?_
            refine own_go (fun t k => XS.istore X173.here hx rfl (hb hby at_271) rfl (l' := #[.val (.int p1), .val (.int p2), .val (.int p3), .val (.int p4), .val (.int p5), .val (.ref b1), .val (.ref b9), .val (.ref b18), .val (.ref b28), .val (.ref b39), .val (.int (p2 &&& (3 : Int32))), .val (.int (1 : Int32)), .val (.int (2 : Int32)), .val (.int (1 : Int32)), .val (.int (2 : Int32)), .unset, .unset]) rfl k) ?_
            show own_Run p e below Φ (T173.setTop (mkF m 273 #[.val (.int p1), .val (.int p2), .val (.int p3), .val (.int p4), .val (.int p5), .val (.ref b1), .val (.ref b9), .val (.ref b18), .val (.ref b28), .val (.ref b39), .val (.int (p2 &&& (3 : Int32))), .val (.int (1 : Int32)), .val (.int (2 : Int32)), .val (.int (1 : Int32)), .val (.int (2 : Int32)), .unset, .unset] []))
            refine own_go (fun t k => XS.iload X173.here hx rfl (hb hby at_273) rfl  k) ?_
            refine own_go (fun t k => XS.istore X173.here hx rfl (hb hby at_275) rfl (l' := #[.val (.int p1), .val (.int p2), .val (.int p3), .val (.int p4), .val (.int p5), .val (.ref b1), .val (.ref b9), .val (.ref b18), .val (.ref b28), .val (.ref b39), .val (.int (p2 &&& (3 : Int32))), .val (.int (1 : Int32)), .val (.int (2 : Int32)), .val (.int (1 : Int32)), .val (.int (2 : Int32)), .unset, .val (.int (2 : Int32))]) rfl k) ?_
            refine own_go (fun t k => XS.iload X173.here hx rfl (hb hby at_277) rfl  k) ?_
            refine own_go (fun t k => XS.iconst X173.here hx rfl (hb hby at_279) k) ?_
            refine own_go (fun t k => XS.icmpNo X173.here hx rfl (hb hby at_280) rfl (tlt (by decide : (2 : Int32) < (3 : Int32))).2.1 k) ?_
            refine own_go (fun t k => XS.aload X173.here hx rfl (hb hby at_283) rfl rfl  k) ?_
            refine own_go (fun t k => XS.iload X173.here hx rfl (hb hby at_285) rfl  k) ?_
            refine own_caload X173 hx hZ e173 F83 (j := (2 : Int32)) (v := (.int ch5)) ⟨by decide, by decide⟩ rfl (g := (mkF m 287 #[.val (.int p1), .val (.int p2), .val (.int p3), .val (.int p4), .val (.int p5), .val (.ref b1), .val (.ref b9), .val (.ref b18), .val (.ref b28), .val (.ref b39), .val (.int (p2 &&& (3 : Int32))), .val (.int (1 : Int32)), .val (.int (2 : Int32)), .val (.int (1 : Int32)), .val (.int (2 : Int32)), .unset, .val (.int (2 : Int32))] [(.int (2 : Int32)), (.ref b9)])) rfl rfl (hb hby at_287) ?_
            refine own_callS X173 hx hZ (y := (⟨"com/example/profitmine/profitmine/io/FieldsWalkPinLaw", "blank", "(C)Z"⟩ : MethodName)) (W := 0) (argsL := [(.int ch5)]) (rest := []) hown (hw _ (List.mem_of_getElem? (i := 112) rfl)) (hw _ (List.mem_of_getElem? (i := 113) rfl)) (hw _ (List.mem_of_getElem? (i := 3) rfl)) (hw _ (List.mem_of_getElem? (i := 114) rfl)) (by decide) (own_bk (rm_bl l Z a0 hw ch5 h78 n0 ) hZ (hw _ (List.mem_of_getElem? (i := 114) rfl)) (hw _ (List.mem_of_getElem? (i := 3) rfl)) (by decide) (by decide)) e173 (g := (mkF m 288 #[.val (.int p1), .val (.int p2), .val (.int p3), .val (.int p4), .val (.int p5), .val (.ref b1), .val (.ref b9), .val (.ref b18), .val (.ref b28), .val (.ref b39), .val (.int (p2 &&& (3 : Int32))), .val (.int (1 : Int32)), .val (.int (2 : Int32)), .val (.int (1 : Int32)), .val (.int (2 : Int32)), .unset, .val (.int (2 : Int32))] [(.int ch5)])) rfl (by rw [hml]; rfl) (lenOf pd_14 rfl) rfl (by show 2 * 0 + _ ≤ _; exact Nat.le_of_eq rfl) (hb hby at_288) (own_le (Nat.add_le_add_right (Nat.add_le_add_right (Nat.add_le_add_right (Nat.add_le_add_right (Nat.add_le_add_right (Nat.add_le_add_right (Nat.add_le_add_right hc64 0) 0) 0) 0) 0) 0) 0) (by decide)) (own_le (Nat.add_le_add_right (Nat.add_le_add_right (Nat.add_le_add_right (Nat.add_le_add_right (Nat.add_le_add_right (Nat.add_le_add_right (Nat.add_le_add_right hs64 0) 0) 0) 0) 0) 0) 0) (by decide)) (fun v185 T185 h185 L185 X185 e185 q185 => ?_)
            obtain ⟨rfl, M185, s185⟩ := q185
            replace e185 : T185.heap = h78 := e185.trans s185
            have N185 := Fr.app N173 M185
            show own_Run p e below Φ (T185.setTop (mkF m 291 #[.val (.int p1), .val (.int p2), .val (.int p3), .val (.int p4), .val (.int p5), .val (.ref b1), .val (.ref b9), .val (.ref b18), .val (.ref b28), .val (.ref b39), .val (.int (p2 &&& (3 : Int32))), .val (.int (1 : Int32)), .val (.int (2 : Int32)), .val (.int (1 : Int32)), .val (.int (2 : Int32)), .unset, .val (.int (2 : Int32))] [(.int (own_blk ch5))]))
            refine own_go (fun t k => XS.ifNo X185.here hx rfl (hb hby at_291) rfl ((if0 _ _).trans (teq hc235).2) k) ?_
            refine own_go (fun t k => XS.iinc X185.here hx rfl (hb hby at_294) rfl (l' := #[.val (.int p1), .val (.int p2), .val (.int p3), .val (.int p4), .val (.int p5), .val (.ref b1), .val (.ref b9), .val (.ref b18), .val (.ref b28), .val (.ref b39), .val (.int (p2 &&& (3 : Int32))), .val (.int (1 : Int32)), .val (.int (2 : Int32)), .val (.int (1 : Int32)), .val (.int (2 : Int32)), .unset, .val (.int ((2 : Int32) + (1 : Int32)))]) rfl k) ?_
            show own_Run p e below Φ (T185.setTop (mkF m 297 #[.val (.int p1), .val (.int p2), .val (.int p3), .val (.int p4), .val (.int p5), .val (.ref b1), .val (.ref b9), .val (.ref b18), .val (.ref b28), .val (.ref b39), .val (.int (p2 &&& (3 : Int32))), .val (.int (1 : Int32)), .val (.int (2 : Int32)), .val (.int (1 : Int32)), .val (.int (2 : Int32)), .unset, .val (.int ((2 : Int32) + (1 : Int32)))] []))
            rw [show ((2 : Int32) + (1 : Int32)) = (3 : Int32) from by decide]
            show own_Run p e below Φ (T185.setTop (mkF m 297 #[.val (.int p1), .val (.int p2), .val (.int p3), .val (.int p4), .val (.int p5), .val (.ref b1), .val (.ref b9), .val (.ref b18), .val (.ref b28), .val (.ref b39), .val (.int (p2 &&& (3 : Int32))), .val (.int (1 : Int32)), .val (.int (2 : Int32)), .val (.int (1 : Int32)), .val (.int (2 : Int32)), .unset, .val (.int (3 : Int32))] []))
            refine own_go (fun t k => XS.iload X185.here hx rfl (hb hby at_297) rfl  k) ?_
            refine own_go (fun t k => XS.iconst X185.here hx rfl (hb hby at_299) k) ?_
            refine own_go (fun t k => XS.icmpYes X185.here hx rfl (pc0 := 300) (pc' := 317) rfl (hb hby at_300) rfl (flt (by decide : ¬ ((3 : Int32) < (3 : Int32)))).2.1 (by decide) (by decide) k) ?_
            refine own_go (fun t k => XS.iload X185.here hx rfl (hb hby at_317) rfl  k) ?_
            refine own_go (fun t k => XS.iconst X185.here hx rfl (hb hby at_319) k) ?_
            refine own_go (fun t k => XS.icmpYes X185.here hx rfl (pc0 := 320) (pc' := 337) rfl (hb hby at_320) rfl (flt (by decide : ¬ ((3 : Int32) < (3 : Int32)))).2.1 (by decide) (by decide) k) ?_
            refine own_go (fun t k => XS.iload X185.here hx rfl (hb hby at_337) rfl  k) ?_
            refine own_go (fun t k => XS.istore X185.here hx rfl (hb hby at_339) rfl (l' := #[.val (.int p1), .val (.int p2), .val (.int p3), .val (.int p4), .val (.int p5), .val (.ref b1), .val (.ref b9), .val (.ref b18), .val (.ref b28), .val (.ref b39), .val (.int (p2 &&& (3 : Int32))), .val (.int (1 : Int32)), .val (.int (2 : Int32)), .val (.int (1 : Int32)), .val (.int (2 : Int32)), .val (.int (3 : Int32)), .val (.int (3 : Int32))]) rfl k) ?_
            refine own_go (fun t k => XS.goto X185.here hx rfl (pc0 := 341) (pc' := 350) rfl (hb hby at_341) (by decide) (by decide) k) ?_
            show own_Run p e below Φ (T185.setTop (mkF m 350 #[.val (.int p1), .val (.int p2), .val (.int p3), .val (.int p4), .val (.int p5), .val (.ref b1), .val (.ref b9), .val (.ref b18), .val (.ref b28), .val (.ref b39), .val (.int (p2 &&& (3 : Int32))), .val (.int (1 : Int32)), .val (.int (2 : Int32)), .val (.int (1 : Int32)), .val (.int (2 : Int32)), .val (.int (3 : Int32)), .val (.int (3 : Int32))] []))
            refine own_go (fun t k => XS.aload X185.here hx rfl (hb hby at_350) rfl rfl  k) ?_
            have F186 : Old Z n0 h78 := (F73.keep K78 (allS (Nat.le_trans F40 (Nat.le_of_eq g39.symm)) all0))
            have F187 : Exa Z h78 b28 "java/lang/String" := (F67.keep K78)
            have F188 : Fld Z h78 b28 "java/lang/String" "value" "[B" (.ref t38) := (F68.keep K78 (ninS ne_b28_b39 nin0))
            have F189 : Fld Z h78 b28 "java/lang/String" "coder" "B" (.int 0) := (F69.keep K78 (ninS ne_b28_b39 nin0))
            have F190 : Arv Z h78 t38 kb38 .byte (3 : Int32) [(.int (ch3.toInt8.toInt32)), (.int (ch4.toInt8.toInt32)), (.int (ch5.toInt8.toInt32))] (.int 0) := (F70.keep K78 (ninS ne_t38_b39 nin0))
            refine own_callV X185 hx hZ (y := (⟨"com/example/profitmine/profitmine/io/Fields", "next", "()Z"⟩ : MethodName)) (z := (⟨"com/example/profitmine/profitmine/io/Fields", "next", "()Z"⟩ : MethodName)) (W := 0) (a := b39) (argsL := []) (rest := []) hown (hw _ (List.mem_of_getElem? (i := 57) rfl)) (hw _ (List.mem_of_getElem? (i := 58) rfl)) (notFace_of_selects (args := #[]) (mvT hZ (hw _ (List.mem_of_getElem? (i := 60) rfl)))) (hw _ (List.mem_of_getElem? (i := 60) rfl)) (hw _ (List.mem_of_getElem? (i := 59) rfl)) (by decide) (own_bk (rm_nb l Z a0 hw b39 b28 t38 kb38 ch3 ch4 ch5 G1 G3 (0 : Int32) h78 n0 F80 P78_0 P78_2 P78_3 P78_1 F186 S0 P5 S1 R3 F187 F188 F189 F190 (Nat.le_trans F40 (Nat.le_of_eq g39.symm)) ne_b28_b39 ne_t38_b39 ⟨hch3, hch4, hch5⟩) hZ (hw _ (List.mem_of_getElem? (i := 61) rfl)) (hw _ (List.mem_of_getElem? (i := 36) rfl)) (by decide) (by decide)) e185 F80 (g := (mkF m 352 #[.val (.int p1), .val (.int p2), .val (.int p3), .val (.int p4), .val (.int p5), .val (.ref b1), .val (.ref b9), .val (.ref b18), .val (.ref b28), .val (.ref b39), .val (.int (p2 &&& (3 : Int32))), .val (.int (1 : Int32)), .val (.int (2 : Int32)), .val (.int (1 : Int32)), .val (.int (2 : Int32)), .val (.int (3 : Int32)), .val (.int (3 : Int32))] [(.ref b39)])) rfl (by rw [hml]; rfl) (lenOf pd_8 rfl) rfl (by show 2 * 0 + _ ≤ _; exact Nat.le_of_eq rfl) (hb hby at_352) (own_le (Nat.add_le_add_right (Nat.add_le_add_right (Nat.add_le_add_right (Nat.add_le_add_right (Nat.add_le_add_right (Nat.add_le_add_right (Nat.add_le_add_right (Nat.add_le_add_right hc64 0) 0) 0) 0) 0) 0) 0) 0) (by decide)) (own_le (Nat.add_le_add_right (Nat.add_le_add_right (Nat.add_le_add_right (Nat.add_le_add_right (Nat.add_le_add_right (Nat.add_le_add_right (Nat.add_le_add_right (Nat.add_le_add_right hs64 0) 0) 0) 0) 0) 0) 0) 0) (by decide)) (fun v191 T191 h191 L191 X191 e191 q191 => ?_)
            obtain ⟨rfl, M191, K191, P191_0, P191_1, P191_2⟩ := q191
            have N191 := Fr.app N185 M191
            refine own_go (fun t k => XS.istore X191.here hx rfl (hb hby at_355) rfl (l' := #[.val (.int p1), .val (.int p2), .val (.int p3), .val (.int p4), .val (.int p5), .val (.ref b1), .val (.ref b9), .val (.ref b18), .val (.ref b28), .val (.ref b39), .val (.int (p2 &&& (3 : Int32))), .val (.int (1 : Int32)), .val (.int (2 : Int32)), .val (.int (1 : Int32)), .val (.int (2 : Int32)), .val (.int (3 : Int32)), .val (.int (own_fd ch3 ch4 ch5))]) rfl k) ?_
            refine own_go (fun t k => XS.iload X191.here hx rfl (hb hby at_357) rfl  k) ?_
            refine own_go (fun t k => XS.ifNo X191.here hx rfl (hb hby at_359) rfl ((if0 _ _).trans (feq (by decide : ¬ ((1 : Int32) = (0 : Int32)))).1) k) ?_
            refine own_go (fun t k => XS.iload X191.here hx rfl (hb hby at_362) rfl  k) ?_
            refine own_go (fun t k => XS.iload X191.here hx rfl (hb hby at_364) rfl  k) ?_
            have hc366 : (own_fd ch3 ch4 ch5) = (1 : Int32) := (by unfold own_fd; rw [if_neg hc195, if_neg hc215, if_pos hc235, if_neg hc254])
            refine own_go (fun t k => XS.icmpNo X191.here hx rfl (hb hby at_366) rfl (teq hc366).2 k) ?_
            refine own_go (fun t k => XS.aload X191.here hx rfl (hb hby at_369) rfl rfl  k) ?_
            show own_Run p e below Φ (T191.setTop (mkF m 371 #[.val (.int p1), .val (.int p2), .val (.int p3), .val (.int p4), .val (.int p5), .val (.ref b1), .val (.ref b9), .val (.ref b18), .val (.ref b28), .val (.ref b39), .val (.int (p2 &&& (3 : Int32))), .val (.int (1 : Int32)), .val (.int (2 : Int32)), .val (.int (1 : Int32)), .val (.int (2 : Int32)), .val (.int (3 : Int32)), .val (.int (own_fd ch3 ch4 ch5))] [(.ref b39)]))
            have F193 : Exa Z h191 b39 "com/example/profitmine/profitmine/io/Fields" := (F80.keep K191)
            refine own_callV X191 hx hZ (y := (⟨"com/example/profitmine/profitmine/io/Fields", "start", "()I"⟩ : MethodName)) (z := (⟨"com/example/profitmine/profitmine/io/Fields", "start", "()I"⟩ : MethodName)) (W := 0) (a := b39) (argsL := []) (rest := []) hown (hw _ (List.mem_of_getElem? (i := 102) rfl)) (hw _ (List.mem_of_getElem? (i := 103) rfl)) (notFace_of_selects (args := #[]) (mvT hZ (hw _ (List.mem_of_getElem? (i := 105) rfl)))) (hw _ (List.mem_of_getElem? (i := 105) rfl)) (hw _ (List.mem_of_getElem? (i := 104) rfl)) (by decide) (own_bk (rm_gstart l Z a0 hw b39 (own_es ch3 ch4 ch5) h191 n0 P191_1) hZ (hw _ (List.mem_of_getElem? (i := 106) rfl)) (hw _ (List.mem_of_getElem? (i := 36) rfl)) (by decide) (by decide)) e191 F193 (g := (mkF m 371 #[.val (.int p1), .val (.int p2), .val (.int p3), .val (.int p4), .val (.int p5), .val (.ref b1), .val (.ref b9), .val (.ref b18), .val (.ref b28), .val (.ref b39), .val (.int (p2 &&& (3 : Int32))), .val (.int (1 : Int32)), .val (.int (2 : Int32)), .val (.int (1 : Int32)), .val (.int (2 : Int32)), .val (.int (3 : Int32)), .val (.int (own_fd ch3 ch4 ch5))] [(.ref b39)])) rfl (by rw [hml]; rfl) (lenOf pd_9 rfl) rfl (by show 2 * 0 + _ ≤ _; exact Nat.le_of_eq rfl) (hb hby at_371) (own_le (Nat.add_le_add_right (Nat.add_le_add_right (Nat.add_le_add_right (Nat.add_le_add_right (Nat.add_le_add_right (Nat.add_le_add_right (Nat.add_le_add_right (Nat.add_le_add_right (Nat.add_le_add_right hc64 0) 0) 0) 0) 0) 0) 0) 0) 0) (by decide)) (own_le (Nat.add_le_add_right (Nat.add_le_add_right (Nat.add_le_add_right (Nat.add_le_add_right (Nat.add_le_add_right (Nat.add_le_add_right (Nat.add_le_add_right (Nat.add_le_add_right (Nat.add_le_add_right hs64 0) 0) 0) 0) 0) 0) 0) 0) 0) (by decide)) (fun v192 T192 h192 L192 X192 e192 q192 => ?_)
            obtain ⟨rfl, M192, s192⟩ := q192
            replace e192 : T192.heap = h191 := e192.trans s192
            have N192 := Fr.app N191 M192
            refine own_go (fun t k => XS.iload X192.here hx rfl (hb hby at_374) rfl  k) ?_
            have hc376 : (own_es ch3 ch4 ch5) = (2 : Int32) := (by unfold own_es; rw [if_neg hc195, if_neg hc215, if_pos hc235, if_neg hc254])
            refine own_go (fun t k => XS.icmpNo X192.here hx rfl (hb hby at_376) rfl (teq hc376).2 k) ?_
            refine own_go (fun t k => XS.aload X192.here hx rfl (hb hby at_379) rfl rfl  k) ?_
            refine own_callV X192 hx hZ (y := (⟨"com/example/profitmine/profitmine/io/Fields", "end", "()I"⟩ : MethodName)) (z := (⟨"com/example/profitmine/profitmine/io/Fields", "end", "()I"⟩ : MethodName)) (W := 0) (a := b39) (argsL := []) (rest := []) hown (hw _ (List.mem_of_getElem? (i := 107) rfl)) (hw _ (List.mem_of_getElem? (i := 108) rfl)) (notFace_of_selects (args := #[]) (mvT hZ (hw _ (List.mem_of_getElem? (i := 110) rfl)))) (hw _ (List.mem_of_getElem? (i := 110) rfl)) (hw _ (List.mem_of_getElem? (i := 109) rfl)) (by decide) (own_bk (rm_gend l Z a0 hw b39 (own_ee ch3 ch4 ch5) h191 n0 P191_2) hZ (hw _ (List.mem_of_getElem? (i := 111) rfl)) (hw _ (List.mem_of_getElem? (i := 36) rfl)) (by decide) (by decide)) e192 F193 (g := (mkF m 381 #[.val (.int p1), .val (.int p2), .val (.int p3), .val (.int p4), .val (.int p5), .val (.ref b1), .val (.ref b9), .val (.ref b18), .val (.ref b28), .val (.ref b39), .val (.int (p2 &&& (3 : Int32))), .val (.int (1 : Int32)), .val (.int (2 : Int32)), .val (.int (1 : Int32)), .val (.int (2 : Int32)), .val (.int (3 : Int32)), .val (.int (own_fd ch3 ch4 ch5))] [(.ref b39)])) rfl (by rw [hml]; rfl) (lenOf pd_9 rfl) rfl (by show 2 * 0 + _ ≤ _; exact Nat.le_of_eq rfl) (hb hby at_381) (own_le (Nat.add_le_add_right (Nat.add_le_add_right (Nat.add_le_add_right (Nat.add_le_add_right (Nat.add_le_add_right (Nat.add_le_add_right (Nat.add_le_add_right (Nat.add_le_add_right (Nat.add_le_add_right (Nat.add_le_add_right hc64 0) 0) 0) 0) 0) 0) 0) 0) 0) 0) (by decide)) (own_le (Nat.add_le_add_right (Nat.add_le_add_right (Nat.add_le_add_right (Nat.add_le_add_right (Nat.add_le_add_right (Nat.add_le_add_right (Nat.add_le_add_right (Nat.add_le_add_right (Nat.add_le_add_right (Nat.add_le_add_right hs64 0) 0) 0) 0) 0) 0) 0) 0) 0) 0) (by decide)) (fun v194 T194 h194 L194 X194 e194 q194 => ?_)
            obtain ⟨rfl, M194, s194⟩ := q194
            replace e194 : T194.heap = h191 := e194.trans s194
            have N194 := Fr.app N192 M194
            refine own_go (fun t k => XS.iload X194.here hx rfl (hb hby at_384) rfl  k) ?_
            have hc386 : (own_ee ch3 ch4 ch5) = (3 : Int32) := (by unfold own_ee; rw [if_neg hc195, if_neg hc215, if_pos hc235, if_neg hc254])
            refine own_go (fun t k => XS.icmpNo X194.here hx rfl (hb hby at_386) rfl (teq hc386).2 k) ?_
            refine own_go (fun t k => XS.aload X194.here hx rfl (hb hby at_389) rfl rfl  k) ?_
            refine own_callV X194 hx hZ (y := (⟨"com/example/profitmine/profitmine/io/Fields", "line", "()Ljava/lang/String;"⟩ : MethodName)) (z := (⟨"com/example/profitmine/profitmine/io/Fields", "line", "()Ljava/lang/String;"⟩ : MethodName)) (W := 0) (a := b39) (argsL := []) (rest := []) hown (hw _ (List.mem_of_getElem? (i := 97) rfl)) (hw _ (List.mem_of_getElem? (i := 98) rfl)) (notFace_of_selects (args := #[]) (mvT hZ (hw _ (List.mem_of_getElem? (i := 100) rfl)))) (hw _ (List.mem_of_getElem? (i := 100) rfl)) (hw _ (List.mem_of_getElem? (i := 99) rfl)) (by decide) (own_bk (rm_gline l Z a0 hw b39 b28 h191 n0 P191_0) hZ (hw _ (List.mem_of_getElem? (i := 101) rfl)) (hw _ (List.mem_of_getElem? (i := 36) rfl)) (by decide) (by decide)) e194 F193 (g := (mkF m 391 #[.val (.int p1), .val (.int p2), .val (.int p3), .val (.int p4), .val (.int p5), .val (.ref b1), .val (.ref b9), .val (.ref b18), .val (.ref b28), .val (.ref b39), .val (.int (p2 &&& (3 : Int32))), .val (.int (1 : Int32)), .val (.int (2 : Int32)), .val (.int (1 : Int32)), .val (.int (2 : Int32)), .val (.int (3 : Int32)), .val (.int (own_fd ch3 ch4 ch5))] [(.ref b39)])) rfl (by rw [hml]; rfl) (lenOf pd_15 rfl) rfl (by show 2 * 0 + _ ≤ _; exact Nat.le_of_eq rfl) (hb hby at_391) (own_le (Nat.add_le_add_right (Nat.add_le_add_right (Nat.add_le_add_right (Nat.add_le_add_right (Nat.add_le_add_right (Nat.add_le_add_right (Nat.add_le_add_right (Nat.add_le_add_right (Nat.add_le_add_right (Nat.add_le_add_right (Nat.add_le_add_right hc64 0) 0) 0) 0) 0) 0) 0) 0) 0) 0) 0) (by decide)) (own_le (Nat.add_le_add_right (Nat.add_le_add_right (Nat.add_le_add_right (Nat.add_le_add_right (Nat.add_le_add_right (Nat.add_le_add_right (Nat.add_le_add_right (Nat.add_le_add_right (Nat.add_le_add_right (Nat.add_le_add_right (Nat.add_le_add_right hs64 0) 0) 0) 0) 0) 0) 0) 0) 0) 0) 0) (by decide)) (fun v195 T195 h195 L195 X195 e195 q195 => ?_)
            obtain ⟨rfl, M195, s195⟩ := q195
            replace e195 : T195.heap = h191 := e195.trans s195
            have N195 := Fr.app N194 M195
            show own_Run p e below Φ (T195.setTop (mkF m 394 #[.val (.int p1), .val (.int p2), .val (.int p3), .val (.int p4), .val (.int p5), .val (.ref b1), .val (.ref b9), .val (.ref b18), .val (.ref b28), .val (.ref b39), .val (.int (p2 &&& (3 : Int32))), .val (.int (1 : Int32)), .val (.int (2 : Int32)), .val (.int (1 : Int32)), .val (.int (2 : Int32)), .val (.int (3 : Int32)), .val (.int (own_fd ch3 ch4 ch5))] [(.ref b28)]))
            refine own_go (fun t k => XS.aload X195.here hx rfl (hb hby at_394) rfl rfl  k) ?_
            refine own_go (fun t k => Jvm.RoadKit.acmp (g := (mkF m 396 #[.val (.int p1), .val (.int p2), .val (.int p3), .val (.int p4), .val (.int p5), .val (.ref b1), .val (.ref b9), .val (.ref b18), .val (.ref b28), .val (.ref b39), .val (.int (p2 &&& (3 : Int32))), .val (.int (1 : Int32)), .val (.int (2 : Int32)), .val (.int (1 : Int32)), .val (.int (2 : Int32)), .val (.int (3 : Int32)), .val (.int (own_fd ch3 ch4 ch5))] [(.ref b28), (.ref b28)])) X195 hx rfl rfl rfl (pc0 := 396) (pc' := 399) (same := true) rfl (hb hby at_396) rfl (decide_eq_true rfl) (by decide) (by decide) k) ?_
            refine own_go (fun t k => XS.iconst X195.here hx rfl (hb hby at_399) k) ?_
            refine own_go (fun t k => XS.goto X195.here hx rfl (pc0 := 400) (pc' := 404) rfl (hb hby at_400) (by decide) (by decide) k) ?_
            have F196 : ky50 ≤ h191.size := (Nat.le_trans (Nat.le_trans F74 K78.1) K191.1)
            subst hΦ
            exact own_retNW X195 hx (t := .boolean) Bd.returns (by simp) hlk (hb hby at_404) e195 hS50 F196 ⟨rfl, N195⟩ (Nat.le_trans (Nat.add_le_add_right (Nat.add_le_add_right (Nat.add_le_add_right (Nat.add_le_add_right (Nat.add_le_add_right (Nat.add_le_add_right (Nat.add_le_add_right (Nat.add_le_add_right (Nat.add_le_add_right (Nat.add_le_add_right (Nat.add_le_add_right (Nat.add_le_add_right hc64 0) 0) 0) 0) 0) 0) 0) 0) 0) 0) 0) 0) (by decide)) (Nat.le_trans (Nat.add_le_add_right (Nat.add_le_add_right (Nat.add_le_add_right (Nat.add_le_add_right (Nat.add_le_add_right (Nat.add_le_add_right (Nat.add_le_add_right (Nat.add_le_add_right (Nat.add_le_add_right (Nat.add_le_add_right (Nat.add_le_add_right (Nat.add_le_add_right hs64 0) 0) 0) 0) 0) 0) 0) 0) 0) 0) 0) 0) (by decide))
        · refine own_go (fun t k => XS.ifNo X173.here hx rfl (hb hby at_235) rfl ((if0 _ _).trans (feq hc235).1) k) ?_
          refine own_go (fun t k => XS.iinc X173.here hx rfl (hb hby at_238) rfl (l' := #[.val (.int p1), .val (.int p2), .val (.int p3), .val (.int p4), .val (.int p5), .val (.ref b1), .val (.ref b9), .val (.ref b18), .val (.ref b28), .val (.ref b39), .val (.int (p2 &&& (3 : Int32))), .val (.int (1 : Int32)), .val (.int ((2 : Int32) + (1 : Int32))), .unset, .unset, .unset, .unset]) rfl k) ?_
          show own_Run p e below Φ (T173.setTop (mkF m 241 #[.val (.int p1), .val (.int p2), .val (.int p3), .val (.int p4), .val (.int p5), .val (.ref b1), .val (.ref b9), .val (.ref b18), .val (.ref b28), .val (.ref b39), .val (.int (p2 &&& (3 : Int32))), .val (.int (1 : Int32)), .val (.int ((2 : Int32) + (1 : Int32))), .unset, .unset, .unset, .unset] []))
          rw [show ((2 : Int32) + (1 : Int32)) = (3 : Int32) from by decide]
          show own_Run p e below Φ (T173.setTop (mkF m 241 #[.val (.int p1), .val (.int p2), .val (.int p3), .val (.int p4), .val (.int p5), .val (.ref b1), .val (.ref b9), .val (.ref b18), .val (.ref b28), .val (.ref b39), .val (.int (p2 &&& (3 : Int32))), .val (.int (1 : Int32)), .val (.int (3 : Int32)), .unset, .unset, .unset, .unset] []))
          refine own_go (fun t k => XS.iload X173.here hx rfl (hb hby at_241) rfl  k) ?_
          refine own_go (fun t k => XS.iconst X173.here hx rfl (hb hby at_243) k) ?_
          refine own_go (fun t k => XS.icmpYes X173.here hx rfl (pc0 := 244) (pc' := 261) rfl (hb hby at_244) rfl (flt (by decide : ¬ ((3 : Int32) < (3 : Int32)))).2.1 (by decide) (by decide) k) ?_
          refine own_go (fun t k => XS.iconst X173.here hx rfl (hb hby at_261) k) ?_
          refine own_go (fun t k => XS.istore X173.here hx rfl (hb hby at_262) rfl (l' := #[.val (.int p1), .val (.int p2), .val (.int p3), .val (.int p4), .val (.int p5), .val (.ref b1), .val (.ref b9), .val (.ref b18), .val (.ref b28), .val (.ref b39), .val (.int (p2 &&& (3 : Int32))), .val (.int (1 : Int32)), .val (.int (3 : Int32)), .val (.int (0 : Int32)), .unset, .unset, .unset]) rfl k) ?_
          refine own_go (fun t k => XS.iload X173.here hx rfl (hb hby at_264) rfl  k) ?_
          refine own_go (fun t k => XS.ifYes X173.here hx rfl (pc0 := 266) (pc' := 344) rfl (hb hby at_266) rfl ((if0 _ _).trans (teq (rfl : (0 : Int32) = (0 : Int32))).1) (by decide) (by decide) k) ?_
          refine own_go (fun t k => XS.iconst X173.here hx rfl (hb hby at_344) k) ?_
          refine own_go (fun t k => XS.istore X173.here hx rfl (hb hby at_345) rfl (l' := #[.val (.int p1), .val (.int p2), .val (.int p3), .val (.int p4), .val (.int p5), .val (.ref b1), .val (.ref b9), .val (.ref b18), .val (.ref b28), .val (.ref b39), .val (.int (p2 &&& (3 : Int32))), .val (.int (1 : Int32)), .val (.int (3 : Int32)), .val (.int (0 : Int32)), .val (.int (3 : Int32)), .unset, .unset]) rfl k) ?_
          show own_Run p e below Φ (T173.setTop (mkF m 347 #[.val (.int p1), .val (.int p2), .val (.int p3), .val (.int p4), .val (.int p5), .val (.ref b1), .val (.ref b9), .val (.ref b18), .val (.ref b28), .val (.ref b39), .val (.int (p2 &&& (3 : Int32))), .val (.int (1 : Int32)), .val (.int (3 : Int32)), .val (.int (0 : Int32)), .val (.int (3 : Int32)), .unset, .unset] []))
          refine own_go (fun t k => XS.iconst X173.here hx rfl (hb hby at_347) k) ?_
          refine own_go (fun t k => XS.istore X173.here hx rfl (hb hby at_348) rfl (l' := #[.val (.int p1), .val (.int p2), .val (.int p3), .val (.int p4), .val (.int p5), .val (.ref b1), .val (.ref b9), .val (.ref b18), .val (.ref b28), .val (.ref b39), .val (.int (p2 &&& (3 : Int32))), .val (.int (1 : Int32)), .val (.int (3 : Int32)), .val (.int (0 : Int32)), .val (.int (3 : Int32)), .val (.int (3 : Int32)), .unset]) rfl k) ?_
          refine own_go (fun t k => XS.aload X173.here hx rfl (hb hby at_350) rfl rfl  k) ?_
          have F197 : Old Z n0 h78 := (F73.keep K78 (allS (Nat.le_trans F40 (Nat.le_of_eq g39.symm)) all0))
          have F198 : Exa Z h78 b28 "java/lang/String" := (F67.keep K78)
          have F199 : Fld Z h78 b28 "java/lang/String" "value" "[B" (.ref t38) := (F68.keep K78 (ninS ne_b28_b39 nin0))
          have F200 : Fld Z h78 b28 "java/lang/String" "coder" "B" (.int 0) := (F69.keep K78 (ninS ne_b28_b39 nin0))
          have F201 : Arv Z h78 t38 kb38 .byte (3 : Int32) [(.int (ch3.toInt8.toInt32)), (.int (ch4.toInt8.toInt32)), (.int (ch5.toInt8.toInt32))] (.int 0) := (F70.keep K78 (ninS ne_t38_b39 nin0))
          refine own_callV X173 hx hZ (y := (⟨"com/example/profitmine/profitmine/io/Fields", "next", "()Z"⟩ : MethodName)) (z := (⟨"com/example/profitmine/profitmine/io/Fields", "next", "()Z"⟩ : MethodName)) (W := 0) (a := b39) (argsL := []) (rest := []) hown (hw _ (List.mem_of_getElem? (i := 57) rfl)) (hw _ (List.mem_of_getElem? (i := 58) rfl)) (notFace_of_selects (args := #[]) (mvT hZ (hw _ (List.mem_of_getElem? (i := 60) rfl)))) (hw _ (List.mem_of_getElem? (i := 60) rfl)) (hw _ (List.mem_of_getElem? (i := 59) rfl)) (by decide) (own_bk (rm_nb l Z a0 hw b39 b28 t38 kb38 ch3 ch4 ch5 G1 G3 (0 : Int32) h78 n0 F80 P78_0 P78_2 P78_3 P78_1 F197 S0 P5 S1 R3 F198 F199 F200 F201 (Nat.le_trans F40 (Nat.le_of_eq g39.symm)) ne_b28_b39 ne_t38_b39 ⟨hch3, hch4, hch5⟩) hZ (hw _ (List.mem_of_getElem? (i := 61) rfl)) (hw _ (List.mem_of_getElem? (i := 36) rfl)) (by decide) (by decide)) e173 F80 (g := (mkF m 352 #[.val (.int p1), .val (.int p2), .val (.int p3), .val (.int p4), .val (.int p5), .val (.ref b1), .val (.ref b9), .val (.ref b18), .val (.ref b28), .val (.ref b39), .val (.int (p2 &&& (3 : Int32))), .val (.int (1 : Int32)), .val (.int (3 : Int32)), .val (.int (0 : Int32)), .val (.int (3 : Int32)), .val (.int (3 : Int32)), .unset] [(.ref b39)])) rfl (by rw [hml]; rfl) (lenOf pd_8 rfl) rfl (by show 2 * 0 + _ ≤ _; exact Nat.le_of_eq rfl) (hb hby at_352) (own_le (Nat.add_le_add_right (Nat.add_le_add_right (Nat.add_le_add_right (Nat.add_le_add_right (Nat.add_le_add_right (Nat.add_le_add_right (Nat.add_le_add_right hc64 0) 0) 0) 0) 0) 0) 0) (by decide)) (own_le (Nat.add_le_add_right (Nat.add_le_add_right (Nat.add_le_add_right (Nat.add_le_add_right (Nat.add_le_add_right (Nat.add_le_add_right (Nat.add_le_add_right hs64 0) 0) 0) 0) 0) 0) 0) (by decide)) (fun v202 T202 h202 L202 X202 e202 q202 => ?_)
          obtain ⟨rfl, M202, K202, P202_0, P202_1, P202_2⟩ := q202
          have N202 := Fr.app N173 M202
          refine own_go (fun t k => XS.istore X202.here hx rfl (hb hby at_355) rfl (l' := #[.val (.int p1), .val (.int p2), .val (.int p3), .val (.int p4), .val (.int p5), .val (.ref b1), .val (.ref b9), .val (.ref b18), .val (.ref b28), .val (.ref b39), .val (.int (p2 &&& (3 : Int32))), .val (.int (1 : Int32)), .val (.int (3 : Int32)), .val (.int (0 : Int32)), .val (.int (3 : Int32)), .val (.int (3 : Int32)), .val (.int (own_fd ch3 ch4 ch5))]) rfl k) ?_
          refine own_go (fun t k => XS.iload X202.here hx rfl (hb hby at_357) rfl  k) ?_
          refine own_go (fun t k => XS.ifNo X202.here hx rfl (hb hby at_359) rfl ((if0 _ _).trans (feq (by decide : ¬ ((1 : Int32) = (0 : Int32)))).1) k) ?_
          refine own_go (fun t k => XS.iload X202.here hx rfl (hb hby at_362) rfl  k) ?_
          refine own_go (fun t k => XS.iload X202.here hx rfl (hb hby at_364) rfl  k) ?_
          show own_Run p e below Φ (T202.setTop (mkF m 366 #[.val (.int p1), .val (.int p2), .val (.int p3), .val (.int p4), .val (.int p5), .val (.ref b1), .val (.ref b9), .val (.ref b18), .val (.ref b28), .val (.ref b39), .val (.int (p2 &&& (3 : Int32))), .val (.int (1 : Int32)), .val (.int (3 : Int32)), .val (.int (0 : Int32)), .val (.int (3 : Int32)), .val (.int (3 : Int32)), .val (.int (own_fd ch3 ch4 ch5))] [(.int (0 : Int32)), (.int (own_fd ch3 ch4 ch5))]))
          have hc366 : (own_fd ch3 ch4 ch5) = (0 : Int32) := (by unfold own_fd; rw [if_neg hc195, if_neg hc215, if_neg hc235])
          refine own_go (fun t k => XS.icmpNo X202.here hx rfl (hb hby at_366) rfl (teq hc366).2 k) ?_
          refine own_go (fun t k => XS.aload X202.here hx rfl (hb hby at_369) rfl rfl  k) ?_
          have F204 : Exa Z h202 b39 "com/example/profitmine/profitmine/io/Fields" := (F80.keep K202)
          refine own_callV X202 hx hZ (y := (⟨"com/example/profitmine/profitmine/io/Fields", "start", "()I"⟩ : MethodName)) (z := (⟨"com/example/profitmine/profitmine/io/Fields", "start", "()I"⟩ : MethodName)) (W := 0) (a := b39) (argsL := []) (rest := []) hown (hw _ (List.mem_of_getElem? (i := 102) rfl)) (hw _ (List.mem_of_getElem? (i := 103) rfl)) (notFace_of_selects (args := #[]) (mvT hZ (hw _ (List.mem_of_getElem? (i := 105) rfl)))) (hw _ (List.mem_of_getElem? (i := 105) rfl)) (hw _ (List.mem_of_getElem? (i := 104) rfl)) (by decide) (own_bk (rm_gstart l Z a0 hw b39 (own_es ch3 ch4 ch5) h202 n0 P202_1) hZ (hw _ (List.mem_of_getElem? (i := 106) rfl)) (hw _ (List.mem_of_getElem? (i := 36) rfl)) (by decide) (by decide)) e202 F204 (g := (mkF m 371 #[.val (.int p1), .val (.int p2), .val (.int p3), .val (.int p4), .val (.int p5), .val (.ref b1), .val (.ref b9), .val (.ref b18), .val (.ref b28), .val (.ref b39), .val (.int (p2 &&& (3 : Int32))), .val (.int (1 : Int32)), .val (.int (3 : Int32)), .val (.int (0 : Int32)), .val (.int (3 : Int32)), .val (.int (3 : Int32)), .val (.int (own_fd ch3 ch4 ch5))] [(.ref b39)])) rfl (by rw [hml]; rfl) (lenOf pd_9 rfl) rfl (by show 2 * 0 + _ ≤ _; exact Nat.le_of_eq rfl) (hb hby at_371) (own_le (Nat.add_le_add_right (Nat.add_le_add_right (Nat.add_le_add_right (Nat.add_le_add_right (Nat.add_le_add_right (Nat.add_le_add_right (Nat.add_le_add_right (Nat.add_le_add_right hc64 0) 0) 0) 0) 0) 0) 0) 0) (by decide)) (own_le (Nat.add_le_add_right (Nat.add_le_add_right (Nat.add_le_add_right (Nat.add_le_add_right (Nat.add_le_add_right (Nat.add_le_add_right (Nat.add_le_add_right (Nat.add_le_add_right hs64 0) 0) 0) 0) 0) 0) 0) 0) (by decide)) (fun v203 T203 h203 L203 X203 e203 q203 => ?_)
          obtain ⟨rfl, M203, s203⟩ := q203
          replace e203 : T203.heap = h202 := e203.trans s203
          have N203 := Fr.app N202 M203
          refine own_go (fun t k => XS.iload X203.here hx rfl (hb hby at_374) rfl  k) ?_
          have hc376 : (own_es ch3 ch4 ch5) = (3 : Int32) := (by unfold own_es; rw [if_neg hc195, if_neg hc215, if_neg hc235])
          refine own_go (fun t k => XS.icmpNo X203.here hx rfl (hb hby at_376) rfl (teq hc376).2 k) ?_
          refine own_go (fun t k => XS.aload X203.here hx rfl (hb hby at_379) rfl rfl  k) ?_
          refine own_callV X203 hx hZ (y := (⟨"com/example/profitmine/profitmine/io/Fields", "end", "()I"⟩ : MethodName)) (z := (⟨"com/example/profitmine/profitmine/io/Fields", "end", "()I"⟩ : MethodName)) (W := 0) (a := b39) (argsL := []) (rest := []) hown (hw _ (List.mem_of_getElem? (i := 107) rfl)) (hw _ (List.mem_of_getElem? (i := 108) rfl)) (notFace_of_selects (args := #[]) (mvT hZ (hw _ (List.mem_of_getElem? (i := 110) rfl)))) (hw _ (List.mem_of_getElem? (i := 110) rfl)) (hw _ (List.mem_of_getElem? (i := 109) rfl)) (by decide) (own_bk (rm_gend l Z a0 hw b39 (own_ee ch3 ch4 ch5) h202 n0 P202_2) hZ (hw _ (List.mem_of_getElem? (i := 111) rfl)) (hw _ (List.mem_of_getElem? (i := 36) rfl)) (by decide) (by decide)) e203 F204 (g := (mkF m 381 #[.val (.int p1), .val (.int p2), .val (.int p3), .val (.int p4), .val (.int p5), .val (.ref b1), .val (.ref b9), .val (.ref b18), .val (.ref b28), .val (.ref b39), .val (.int (p2 &&& (3 : Int32))), .val (.int (1 : Int32)), .val (.int (3 : Int32)), .val (.int (0 : Int32)), .val (.int (3 : Int32)), .val (.int (3 : Int32)), .val (.int (own_fd ch3 ch4 ch5))] [(.ref b39)])) rfl (by rw [hml]; rfl) (lenOf pd_9 rfl) rfl (by show 2 * 0 + _ ≤ _; exact Nat.le_of_eq rfl) (hb hby at_381) (own_le (Nat.add_le_add_right (Nat.add_le_add_right (Nat.add_le_add_right (Nat.add_le_add_right (Nat.add_le_add_right (Nat.add_le_add_right (Nat.add_le_add_right (Nat.add_le_add_right (Nat.add_le_add_right hc64 0) 0) 0) 0) 0) 0) 0) 0) 0) (by decide)) (own_le (Nat.add_le_add_right (Nat.add_le_add_right (Nat.add_le_add_right (Nat.add_le_add_right (Nat.add_le_add_right (Nat.add_le_add_right (Nat.add_le_add_right (Nat.add_le_add_right (Nat.add_le_add_right hs64 0) 0) 0) 0) 0) 0) 0) 0) 0) (by decide)) (fun v205 T205 h205 L205 X205 e205 q205 => ?_)
          obtain ⟨rfl, M205, s205⟩ := q205
          replace e205 : T205.heap = h202 := e205.trans s205
          have N205 := Fr.app N203 M205
          refine own_go (fun t k => XS.iload X205.here hx rfl (hb hby at_384) rfl  k) ?_
          have hc386 : (own_ee ch3 ch4 ch5) = (3 : Int32) := (by unfold own_ee; rw [if_neg hc195, if_neg hc215, if_neg hc235])
          refine own_go (fun t k => XS.icmpNo X205.here hx rfl (hb hby at_386) rfl (teq hc386).2 k) ?_
          show own_Run p e below Φ (T205.setTop (mkF m 389 #[.val (.int p1), .val (.int p2), .val (.int p3), .val (.int p4), .val (.int p5), .val (.ref b1), .val (.ref b9), .val (.ref b18), .val (.ref b28), .val (.ref b39), .val (.int (p2 &&& (3 : Int32))), .val (.int (1 : Int32)), .val (.int (3 : Int32)), .val (.int (0 : Int32)), .val (.int (3 : Int32)), .val (.int (3 : Int32)), .val (.int (own_fd ch3 ch4 ch5))] []))
          refine own_go (fun t k => XS.aload X205.here hx rfl (hb hby at_389) rfl rfl  k) ?_
          refine own_callV X205 hx hZ (y := (⟨"com/example/profitmine/profitmine/io/Fields", "line", "()Ljava/lang/String;"⟩ : MethodName)) (z := (⟨"com/example/profitmine/profitmine/io/Fields", "line", "()Ljava/lang/String;"⟩ : MethodName)) (W := 0) (a := b39) (argsL := []) (rest := []) hown (hw _ (List.mem_of_getElem? (i := 97) rfl)) (hw _ (List.mem_of_getElem? (i := 98) rfl)) (notFace_of_selects (args := #[]) (mvT hZ (hw _ (List.mem_of_getElem? (i := 100) rfl)))) (hw _ (List.mem_of_getElem? (i := 100) rfl)) (hw _ (List.mem_of_getElem? (i := 99) rfl)) (by decide) (own_bk (rm_gline l Z a0 hw b39 b28 h202 n0 P202_0) hZ (hw _ (List.mem_of_getElem? (i := 101) rfl)) (hw _ (List.mem_of_getElem? (i := 36) rfl)) (by decide) (by decide)) e205 F204 (g := (mkF m 391 #[.val (.int p1), .val (.int p2), .val (.int p3), .val (.int p4), .val (.int p5), .val (.ref b1), .val (.ref b9), .val (.ref b18), .val (.ref b28), .val (.ref b39), .val (.int (p2 &&& (3 : Int32))), .val (.int (1 : Int32)), .val (.int (3 : Int32)), .val (.int (0 : Int32)), .val (.int (3 : Int32)), .val (.int (3 : Int32)), .val (.int (own_fd ch3 ch4 ch5))] [(.ref b39)])) rfl (by rw [hml]; rfl) (lenOf pd_15 rfl) rfl (by show 2 * 0 + _ ≤ _; exact Nat.le_of_eq rfl) (hb hby at_391) (own_le (Nat.add_le_add_right (Nat.add_le_add_right (Nat.add_le_add_right (Nat.add_le_add_right (Nat.add_le_add_right (Nat.add_le_add_right (Nat.add_le_add_right (Nat.add_le_add_right (Nat.add_le_add_right (Nat.add_le_add_right hc64 0) 0) 0) 0) 0) 0) 0) 0) 0) 0) (by decide)) (own_le (Nat.add_le_add_right (Nat.add_le_add_right (Nat.add_le_add_right (Nat.add_le_add_right (Nat.add_le_add_right (Nat.add_le_add_right (Nat.add_le_add_right (Nat.add_le_add_right (Nat.add_le_add_right (Nat.add_le_add_right hs64 0) 0) 0) 0) 0) 0) 0) 0) 0) 0) (by decide)) (fun v206 T206 h206 L206 X206 e206 q206 => ?_)
          obtain ⟨rfl, M206, s206⟩ := q206
          replace e206 : T206.heap = h202 := e206.trans s206
          have N206 := Fr.app N205 M206
          refine own_go (fun t k => XS.aload X206.here hx rfl (hb hby at_394) rfl rfl  k) ?_
          refine own_go (fun t k => Jvm.RoadKit.acmp (g := (mkF m 396 #[.val (.int p1), .val (.int p2), .val (.int p3), .val (.int p4), .val (.int p5), .val (.ref b1), .val (.ref b9), .val (.ref b18), .val (.ref b28), .val (.ref b39), .val (.int (p2 &&& (3 : Int32))), .val (.int (1 : Int32)), .val (.int (3 : Int32)), .val (.int (0 : Int32)), .val (.int (3 : Int32)), .val (.int (3 : Int32)), .val (.int (own_fd ch3 ch4 ch5))] [(.ref b28), (.ref b28)])) X206 hx rfl rfl rfl (pc0 := 396) (pc' := 399) (same := true) rfl (hb hby at_396) rfl (decide_eq_true rfl) (by decide) (by decide) k) ?_
          refine own_go (fun t k => XS.iconst X206.here hx rfl (hb hby at_399) k) ?_
          refine own_go (fun t k => XS.goto X206.here hx rfl (pc0 := 400) (pc' := 404) rfl (hb hby at_400) (by decide) (by decide) k) ?_
          have F207 : ky50 ≤ h202.size := (Nat.le_trans (Nat.le_trans F74 K78.1) K202.1)
          subst hΦ
          exact own_retNW X206 hx (t := .boolean) Bd.returns (by simp) hlk (hb hby at_404) e206 hS50 F207 ⟨rfl, N206⟩ (Nat.le_trans (Nat.add_le_add_right (Nat.add_le_add_right (Nat.add_le_add_right (Nat.add_le_add_right (Nat.add_le_add_right (Nat.add_le_add_right (Nat.add_le_add_right (Nat.add_le_add_right (Nat.add_le_add_right (Nat.add_le_add_right (Nat.add_le_add_right hc64 0) 0) 0) 0) 0) 0) 0) 0) 0) 0) 0) (by decide)) (Nat.le_trans (Nat.add_le_add_right (Nat.add_le_add_right (Nat.add_le_add_right (Nat.add_le_add_right (Nat.add_le_add_right (Nat.add_le_add_right (Nat.add_le_add_right (Nat.add_le_add_right (Nat.add_le_add_right (Nat.add_le_add_right (Nat.add_le_add_right hs64 0) 0) 0) 0) 0) 0) 0) 0) 0) 0) 0) (by decide))
  show own_Run p e below Φ (T53.setTop (mkF m 102 #[.val (.int p1), .val (.int p2), .val (.int p3), .val (.int p4), .val (.int p5), .val (.ref b1), .val (.ref b9), .val (.ref b18), .val (.ref b28), .val (.ref b39), .val (.int (p2 &&& (3 : Int32))), .unset, .unset, .unset, .unset, .unset, .unset] []))
  refine own_go (fun t k => XS.iload X53.here hx rfl (hb hby at_102) rfl  k) ?_
  refine own_go (fun t k => XS.iconst X53.here hx rfl (hb hby at_104) k) ?_
  by_cases hc105 : (p2 &&& (3 : Int32)) < (1 : Int32)
  · refine own_go (fun t k => XS.icmpYes X53.here hx rfl (pc0 := 105) (pc' := 114) rfl (hb hby at_105) rfl (tlt hc105).1 (by decide) (by decide) k) ?_
    show own_Run p e below Φ (T53.setTop (mkF m 114 #[.val (.int p1), .val (.int p2), .val (.int p3), .val (.int p4), .val (.int p5), .val (.ref b1), .val (.ref b9), .val (.ref b18), .val (.ref b28), .val (.ref b39), .val (.int (p2 &&& (3 : Int32))), .unset, .unset, .unset, .unset, .unset, .unset] []))
    refine own_go (fun t k => XS.iload X53.here hx rfl (hb hby at_114) rfl  k) ?_
    refine own_go (fun t k => XS.iconst X53.here hx rfl (hb hby at_116) k) ?_
    have hc117 : (p2 &&& (3 : Int32)) < (2 : Int32) := (own_l12 hc105)
    refine own_go (fun t k => XS.icmpYes X53.here hx rfl (pc0 := 117) (pc' := 126) rfl (hb hby at_117) rfl (tlt hc117).1 (by decide) (by decide) k) ?_
    refine own_go (fun t k => XS.iload X53.here hx rfl (hb hby at_126) rfl  k) ?_
    refine own_go (fun t k => XS.iconst X53.here hx rfl (hb hby at_128) k) ?_
    have hc129 : (p2 &&& (3 : Int32)) < (3 : Int32) := (own_l23 hc117)
    refine own_go (fun t k => XS.icmpYes X53.here hx rfl (pc0 := 129) (pc' := 138) rfl (hb hby at_129) rfl (tlt hc129).1 (by decide) (by decide) k) ?_
    exact J138_63 (0 : Int32) (0 : Int32) (0 : Int32) T53 h53 _ _ _ X53 e53 N53 (by decide) (by decide) F54 P53_0 F55 F56 F57 F58 F59 F60 F61 F62 P53_2 P53_3 P53_1
  · refine own_go (fun t k => XS.icmpNo X53.here hx rfl (hb hby at_105) rfl (flt hc105).1 k) ?_
    refine own_go (fun t k => XS.aload X53.here hx rfl (hb hby at_108) rfl rfl  k) ?_
    have F208 : Exa Z h53 b18 "java/lang/String" := (((F43.ext E39).keep K50).keep K53)
    have F209 : Fld Z h53 b18 "java/lang/String" "value" "[B" (.ref t27) := (((((PV27.ext E28).keep K38 (ninS ne_b18_b28 nin0)).ext E39).keep K50 (ninS ne_b18_b39 nin0)).keep K53 (ninS ne_b18_b39 nin0))
    have F210 : Fld Z h53 b18 "java/lang/String" "coder" "B" (.int 0) := (((((PC27.ext E28).keep K38 (ninS ne_b18_b28 nin0)).ext E39).keep K50 (ninS ne_b18_b39 nin0)).keep K53 (ninS ne_b18_b39 nin0))
    have F211 : Arv Z h53 t27 kb27 .byte (3 : Int32) [(.int (ch0.toInt8.toInt32)), (.int (ch1.toInt8.toInt32)), (.int (ch2.toInt8.toInt32))] (.int 0) := (((F44.ext E39).keep K50 (ninS ne_t27_b39 nin0)).keep K53 (ninS ne_t27_b39 nin0))
    refine own_callV X53 hx hZ (y := (⟨"com/example/profitmine/profitmine/io/Fields", "next", "()Z"⟩ : MethodName)) (z := (⟨"com/example/profitmine/profitmine/io/Fields", "next", "()Z"⟩ : MethodName)) (W := 0) (a := b39) (argsL := []) (rest := []) hown (hw _ (List.mem_of_getElem? (i := 57) rfl)) (hw _ (List.mem_of_getElem? (i := 58) rfl)) (notFace_of_selects (args := #[]) (mvT hZ (hw _ (List.mem_of_getElem? (i := 60) rfl)))) (hw _ (List.mem_of_getElem? (i := 60) rfl)) (hw _ (List.mem_of_getElem? (i := 59) rfl)) (by decide) (own_bk (rm_na l Z a0 hw b39 b18 t27 kb27 ch0 ch1 ch2 G1 G3 (0 : Int32) (0 : Int32) (0 : Int32) h53 n0 F54 P53_0 P53_2 P53_3 P53_1 F61 S0 P5 S1 R3 F208 F209 F210 F211 (Nat.le_trans F40 (Nat.le_of_eq g39.symm)) ne_b18_b39 ne_t27_b39 ⟨hch0, hch1, hch2⟩ (by decide)) hZ (hw _ (List.mem_of_getElem? (i := 61) rfl)) (hw _ (List.mem_of_getElem? (i := 36) rfl)) (by decide) (by decide)) e53 F54 (g := (mkF m 110 #[.val (.int p1), .val (.int p2), .val (.int p3), .val (.int p4), .val (.int p5), .val (.ref b1), .val (.ref b9), .val (.ref b18), .val (.ref b28), .val (.ref b39), .val (.int (p2 &&& (3 : Int32))), .unset, .unset, .unset, .unset, .unset, .unset] [(.ref b39)])) rfl (by rw [hml]; rfl) (lenOf pd_8 rfl) rfl (by show 2 * 0 + _ ≤ _; exact Nat.le_of_eq rfl) (hb hby at_110) (by decide) (by decide) (fun v212 T212 h212 L212 X212 e212 q212 => ?_)
    obtain ⟨⟨rz212, rfl⟩, M212, K212, P212_0, P212_1⟩ := q212
    have N212 := Fr.app N53 M212
    obtain ⟨u1_212, u2_212, u3_212, FA212, FB212, FC212, FH212⟩ := P212_1
    refine own_go (fun t k => XS.pop X212.here hx rfl (hb hby at_113) rfl rfl k) ?_
    show own_Run p e below Φ (T212.setTop (mkF m 114 #[.val (.int p1), .val (.int p2), .val (.int p3), .val (.int p4), .val (.int p5), .val (.ref b1), .val (.ref b9), .val (.ref b18), .val (.ref b28), .val (.ref b39), .val (.int (p2 &&& (3 : Int32))), .unset, .unset, .unset, .unset, .unset, .unset] []))
    refine own_go (fun t k => XS.iload X212.here hx rfl (hb hby at_114) rfl  k) ?_
    refine own_go (fun t k => XS.iconst X212.here hx rfl (hb hby at_116) k) ?_
    by_cases hc117 : (p2 &&& (3 : Int32)) < (2 : Int32)
    · refine own_go (fun t k => XS.icmpYes X212.here hx rfl (pc0 := 117) (pc' := 126) rfl (hb hby at_117) rfl (tlt hc117).1 (by decide) (by decide) k) ?_
      refine own_go (fun t k => XS.iload X212.here hx rfl (hb hby at_126) rfl  k) ?_
      refine own_go (fun t k => XS.iconst X212.here hx rfl (hb hby at_128) k) ?_
      have hc129 : (p2 &&& (3 : Int32)) < (3 : Int32) := (own_l23 hc117)
      refine own_go (fun t k => XS.icmpYes X212.here hx rfl (pc0 := 129) (pc' := 138) rfl (hb hby at_129) rfl (tlt hc129).1 (by decide) (by decide) k) ?_
      have F213 : Exa Z h212 b39 "com/example/profitmine/profitmine/io/Fields" := (F54.keep K212)
      have F214 : Exa Z h212 b28 "java/lang/String" := (F55.keep K212)
      have F215 : Fld Z h212 b28 "java/lang/String" "value" "[B" (.ref t38) := (F56.keep K212 (ninS ne_b28_b39 nin0))
      have F216 : Fld Z h212 b28 "java/lang/String" "coder" "B" (.int 0) := (F57.keep K212 (ninS ne_b28_b39 nin0))
      have F217 : Arv Z h212 t38 kb38 .byte (3 : Int32) [(.int (ch3.toInt8.toInt32)), (.int (ch4.toInt8.toInt32)), (.int (ch5.toInt8.toInt32))] (.int 0) := (F58.keep K212 (ninS ne_t38_b39 nin0))
      have F218 : Arv Z h212 b9 k9 .char (3 : Int32) [(.int ch3), (.int ch4), (.int ch5)] (.int (0 : Int32)) := (F59.keep K212 (ninS ne_b9_b39 nin0))
      have F219 : n0 ≤ h212.size := (Nat.le_trans F60 K212.1)
      have F220 : Old Z n0 h212 := (F61.keep K212 (allS (Nat.le_trans F40 (Nat.le_of_eq g39.symm)) all0))
      have F221 : ky50 ≤ h212.size := (Nat.le_trans F62 K212.1)
      exact J138_63 u1_212 u2_212 u3_212 T212 h212 _ _ _ X212 e212 N212 (by decide) (by decide) F213 P212_0 F214 F215 F216 F217 F218 F219 F220 F221 FA212 FB212 FC212
    · refine own_go (fun t k => XS.icmpNo X212.here hx rfl (hb hby at_117) rfl (flt hc117).1 k) ?_
      refine own_go (fun t k => XS.aload X212.here hx rfl (hb hby at_120) rfl rfl  k) ?_
      have F222 : Exa Z h212 b39 "com/example/profitmine/profitmine/io/Fields" := (F54.keep K212)
      have F223 : Old Z n0 h212 := (F61.keep K212 (allS (Nat.le_trans F40 (Nat.le_of_eq g39.symm)) all0))
      have F224 : Exa Z h212 b18 "java/lang/String" := (F208.keep K212)
      have F225 : Fld Z h212 b18 "java/lang/String" "value" "[B" (.ref t27) := (F209.keep K212 (ninS ne_b18_b39 nin0))
      have F226 : Fld Z h212 b18 "java/lang/String" "coder" "B" (.int 0) := (F210.keep K212 (ninS ne_b18_b39 nin0))
      have F227 : Arv Z h212 t27 kb27 .byte (3 : Int32) [(.int (ch0.toInt8.toInt32)), (.int (ch1.toInt8.toInt32)), (.int (ch2.toInt8.toInt32))] (.int 0) := (F211.keep K212 (ninS ne_t27_b39 nin0))
      refine own_callV X212 hx hZ (y := (⟨"com/example/profitmine/profitmine/io/Fields", "next", "()Z"⟩ : MethodName)) (z := (⟨"com/example/profitmine/profitmine/io/Fields", "next", "()Z"⟩ : MethodName)) (W := 0) (a := b39) (argsL := []) (rest := []) hown (hw _ (List.mem_of_getElem? (i := 57) rfl)) (hw _ (List.mem_of_getElem? (i := 58) rfl)) (notFace_of_selects (args := #[]) (mvT hZ (hw _ (List.mem_of_getElem? (i := 60) rfl)))) (hw _ (List.mem_of_getElem? (i := 60) rfl)) (hw _ (List.mem_of_getElem? (i := 59) rfl)) (by decide) (own_bk (rm_na l Z a0 hw b39 b18 t27 kb27 ch0 ch1 ch2 G1 G3 u1_212 u2_212 u3_212 h212 n0 F222 P212_0 FA212 FB212 FC212 F223 S0 P5 S1 R3 F224 F225 F226 F227 (Nat.le_trans F40 (Nat.le_of_eq g39.symm)) ne_b18_b39 ne_t27_b39 ⟨hch0, hch1, hch2⟩ FH212) hZ (hw _ (List.mem_of_getElem? (i := 61) rfl)) (hw _ (List.mem_of_getElem? (i := 36) rfl)) (by decide) (by decide)) e212 F222 (g := (mkF m 122 #[.val (.int p1), .val (.int p2), .val (.int p3), .val (.int p4), .val (.int p5), .val (.ref b1), .val (.ref b9), .val (.ref b18), .val (.ref b28), .val (.ref b39), .val (.int (p2 &&& (3 : Int32))), .unset, .unset, .unset, .unset, .unset, .unset] [(.ref b39)])) rfl (by rw [hml]; rfl) (lenOf pd_8 rfl) rfl (by show 2 * 0 + _ ≤ _; exact Nat.le_of_eq rfl) (hb hby at_122) (by decide) (by decide) (fun v228 T228 h228 L228 X228 e228 q228 => ?_)
      obtain ⟨⟨rz228, rfl⟩, M228, K228, P228_0, P228_1⟩ := q228
      have N228 := Fr.app N212 M228
      obtain ⟨u1_228, u2_228, u3_228, FA228, FB228, FC228, FH228⟩ := P228_1
      refine own_go (fun t k => XS.pop X228.here hx rfl (hb hby at_125) rfl rfl k) ?_
      show own_Run p e below Φ (T228.setTop (mkF m 126 #[.val (.int p1), .val (.int p2), .val (.int p3), .val (.int p4), .val (.int p5), .val (.ref b1), .val (.ref b9), .val (.ref b18), .val (.ref b28), .val (.ref b39), .val (.int (p2 &&& (3 : Int32))), .unset, .unset, .unset, .unset, .unset, .unset] []))
      refine own_go (fun t k => XS.iload X228.here hx rfl (hb hby at_126) rfl  k) ?_
      refine own_go (fun t k => XS.iconst X228.here hx rfl (hb hby at_128) k) ?_
      by_cases hc129 : (p2 &&& (3 : Int32)) < (3 : Int32)
      · refine own_go (fun t k => XS.icmpYes X228.here hx rfl (pc0 := 129) (pc' := 138) rfl (hb hby at_129) rfl (tlt hc129).1 (by decide) (by decide) k) ?_
        have F229 : Exa Z h228 b39 "com/example/profitmine/profitmine/io/Fields" := (F222.keep K228)
        have F230 : Exa Z h228 b28 "java/lang/String" := ((F55.keep K212).keep K228)
        have F231 : Fld Z h228 b28 "java/lang/String" "value" "[B" (.ref t38) := ((F56.keep K212 (ninS ne_b28_b39 nin0)).keep K228 (ninS ne_b28_b39 nin0))
        have F232 : Fld Z h228 b28 "java/lang/String" "coder" "B" (.int 0) := ((F57.keep K212 (ninS ne_b28_b39 nin0)).keep K228 (ninS ne_b28_b39 nin0))
        have F233 : Arv Z h228 t38 kb38 .byte (3 : Int32) [(.int (ch3.toInt8.toInt32)), (.int (ch4.toInt8.toInt32)), (.int (ch5.toInt8.toInt32))] (.int 0) := ((F58.keep K212 (ninS ne_t38_b39 nin0)).keep K228 (ninS ne_t38_b39 nin0))
        have F234 : Arv Z h228 b9 k9 .char (3 : Int32) [(.int ch3), (.int ch4), (.int ch5)] (.int (0 : Int32)) := ((F59.keep K212 (ninS ne_b9_b39 nin0)).keep K228 (ninS ne_b9_b39 nin0))
        have F235 : n0 ≤ h228.size := (Nat.le_trans (Nat.le_trans F60 K212.1) K228.1)
        have F236 : Old Z n0 h228 := (F223.keep K228 (allS (Nat.le_trans F40 (Nat.le_of_eq g39.symm)) all0))
        have F237 : ky50 ≤ h228.size := (Nat.le_trans (Nat.le_trans F62 K212.1) K228.1)
        exact J138_63 u1_228 u2_228 u3_228 T228 h228 _ _ _ X228 e228 N228 (by decide) (by decide) F229 P228_0 F230 F231 F232 F233 F234 F235 F236 F237 FA228 FB228 FC228
      · refine own_go (fun t k => XS.icmpNo X228.here hx rfl (hb hby at_129) rfl (flt hc129).1 k) ?_
        refine own_go (fun t k => XS.aload X228.here hx rfl (hb hby at_132) rfl rfl  k) ?_
        have F238 : Exa Z h228 b39 "com/example/profitmine/profitmine/io/Fields" := (F222.keep K228)
        have F239 : Old Z n0 h228 := (F223.keep K228 (allS (Nat.le_trans F40 (Nat.le_of_eq g39.symm)) all0))
        have F240 : Exa Z h228 b18 "java/lang/String" := (F224.keep K228)
        have F241 : Fld Z h228 b18 "java/lang/String" "value" "[B" (.ref t27) := (F225.keep K228 (ninS ne_b18_b39 nin0))
        have F242 : Fld Z h228 b18 "java/lang/String" "coder" "B" (.int 0) := (F226.keep K228 (ninS ne_b18_b39 nin0))
        have F243 : Arv Z h228 t27 kb27 .byte (3 : Int32) [(.int (ch0.toInt8.toInt32)), (.int (ch1.toInt8.toInt32)), (.int (ch2.toInt8.toInt32))] (.int 0) := (F227.keep K228 (ninS ne_t27_b39 nin0))
        refine own_callV X228 hx hZ (y := (⟨"com/example/profitmine/profitmine/io/Fields", "next", "()Z"⟩ : MethodName)) (z := (⟨"com/example/profitmine/profitmine/io/Fields", "next", "()Z"⟩ : MethodName)) (W := 0) (a := b39) (argsL := []) (rest := []) hown (hw _ (List.mem_of_getElem? (i := 57) rfl)) (hw _ (List.mem_of_getElem? (i := 58) rfl)) (notFace_of_selects (args := #[]) (mvT hZ (hw _ (List.mem_of_getElem? (i := 60) rfl)))) (hw _ (List.mem_of_getElem? (i := 60) rfl)) (hw _ (List.mem_of_getElem? (i := 59) rfl)) (by decide) (own_bk (rm_na l Z a0 hw b39 b18 t27 kb27 ch0 ch1 ch2 G1 G3 u1_228 u2_228 u3_228 h228 n0 F238 P228_0 FA228 FB228 FC228 F239 S0 P5 S1 R3 F240 F241 F242 F243 (Nat.le_trans F40 (Nat.le_of_eq g39.symm)) ne_b18_b39 ne_t27_b39 ⟨hch0, hch1, hch2⟩ FH228) hZ (hw _ (List.mem_of_getElem? (i := 61) rfl)) (hw _ (List.mem_of_getElem? (i := 36) rfl)) (by decide) (by decide)) e228 F238 (g := (mkF m 134 #[.val (.int p1), .val (.int p2), .val (.int p3), .val (.int p4), .val (.int p5), .val (.ref b1), .val (.ref b9), .val (.ref b18), .val (.ref b28), .val (.ref b39), .val (.int (p2 &&& (3 : Int32))), .unset, .unset, .unset, .unset, .unset, .unset] [(.ref b39)])) rfl (by rw [hml]; rfl) (lenOf pd_8 rfl) rfl (by show 2 * 0 + _ ≤ _; exact Nat.le_of_eq rfl) (hb hby at_134) (by decide) (by decide) (fun v244 T244 h244 L244 X244 e244 q244 => ?_)
        obtain ⟨⟨rz244, rfl⟩, M244, K244, P244_0, P244_1⟩ := q244
        have N244 := Fr.app N228 M244
        obtain ⟨u1_244, u2_244, u3_244, FA244, FB244, FC244, FH244⟩ := P244_1
        refine own_go (fun t k => XS.pop X244.here hx rfl (hb hby at_137) rfl rfl k) ?_
        have F245 : Exa Z h244 b39 "com/example/profitmine/profitmine/io/Fields" := (F238.keep K244)
        have F246 : Exa Z h244 b28 "java/lang/String" := (((F55.keep K212).keep K228).keep K244)
        have F247 : Fld Z h244 b28 "java/lang/String" "value" "[B" (.ref t38) := (((F56.keep K212 (ninS ne_b28_b39 nin0)).keep K228 (ninS ne_b28_b39 nin0)).keep K244 (ninS ne_b28_b39 nin0))
        have F248 : Fld Z h244 b28 "java/lang/String" "coder" "B" (.int 0) := (((F57.keep K212 (ninS ne_b28_b39 nin0)).keep K228 (ninS ne_b28_b39 nin0)).keep K244 (ninS ne_b28_b39 nin0))
        have F249 : Arv Z h244 t38 kb38 .byte (3 : Int32) [(.int (ch3.toInt8.toInt32)), (.int (ch4.toInt8.toInt32)), (.int (ch5.toInt8.toInt32))] (.int 0) := (((F58.keep K212 (ninS ne_t38_b39 nin0)).keep K228 (ninS ne_t38_b39 nin0)).keep K244 (ninS ne_t38_b39 nin0))
        have F250 : Arv Z h244 b9 k9 .char (3 : Int32) [(.int ch3), (.int ch4), (.int ch5)] (.int (0 : Int32)) := (((F59.keep K212 (ninS ne_b9_b39 nin0)).keep K228 (ninS ne_b9_b39 nin0)).keep K244 (ninS ne_b9_b39 nin0))
        have F251 : n0 ≤ h244.size := (Nat.le_trans (Nat.le_trans (Nat.le_trans F60 K212.1) K228.1) K244.1)
        have F252 : Old Z n0 h244 := (F239.keep K244 (allS (Nat.le_trans F40 (Nat.le_of_eq g39.symm)) all0))
        have F253 : ky50 ≤ h244.size := (Nat.le_trans (Nat.le_trans (Nat.le_trans F62 K212.1) K228.1) K244.1)
        exact J138_63 u1_244 u2_244 u3_244 T244 h244 _ _ _ X244 e244 N244 (by decide) (by decide) F245 P244_0 F246 F247 F248 F249 F250 F251 F252 F253 FA244 FB244 FC244
set_option maxRecDepth 65536 in
set_option maxHeartbeats 40000000 in
theorem comes_1 {Post : Tables → Env → Array Value → State → Outcome → State → Prop} (hpost : ∀ tb e args s v u, (limb_1_1.after args s (.returned v) u = true ∧ limb_1_2.after args s (.returned v) u = true ∧ True) → ReturnedEndW s (.returned v) u (Jvm.fieldLocs frame_1_writes args s ++ Jvm.arrayLocs frame_1_arrays args s ++ Jvm.staticLocs frame_1_statics s) 24 1152 → Post tb e args s (.returned v) u) :
    ArmFor flags0 classFile x code maxLocals ret World_1 tables_1 room_1 Calls_1 rest_1 Pre_1 Post := by
  intro l hfl _ _ p e ha hc hk s m args below hf hA hF happ hP
  obtain ⟨hcalls, hrest, hpre⟩ := hP
  obtain ⟨-, -, -, hnamed, -, -, -, hat⟩ := (Spec.applies_iff hf).mp happ
  obtain ⟨hg, hn⟩ := and_e (Cond.before_iff.mp (show (Jvm.Cond.and given_1 narrow_1).before args s = true from hpre))
  obtain ⟨hcount, hg⟩ := and_e hg
  obtain ⟨ha0, hg⟩ := and_e hg
  obtain ⟨ha1, hg⟩ := and_e hg
  obtain ⟨ha2, hg⟩ := and_e hg
  obtain ⟨ha3, hg⟩ := and_e hg
  have ha4 := hg
  obtain ⟨w0, w1, w2, w3, w4, rfl⟩ : ∃ w0 w1 w2 w3 w4 : Value, args = #[w0, w1, w2, w3, w4] := by
    have hs : args.size = 5 := by simpa [Cond.value, given_1] using hcount
    obtain ⟨L⟩ := args
    match L, hs with
    | [w0, w1, w2, w3, w4], _ => exact ⟨w0, w1, w2, w3, w4, rfl⟩
  have hw := fun d (hd : d ∈ tables_1) => atoms_spec (ws := Jvm.Cond.code x code maxLocals ret :: tables_1) hat d (List.mem_cons_of_mem _ hd)
  have hfit : Fit s := fun {y c} hc i hi => by
    obtain ⟨ha, rfl⟩ := Array.getElem?_eq_some_iff.mp hc
    have q := List.all_eq_true.mp ((Array.all_eq_true_iff_forall_mem.mp hF) _ (Array.getElem_mem ha)) i (List.mem_range.mpr hi)
    simpa [Array.getElem?_eq_getElem hi] using q
  obtain ⟨i0, ei0⟩ := is_v ha0
  obtain rfl : w0 = (.int i0) := Option.some.inj ei0
  obtain ⟨i1, ei1⟩ := is_v ha1
  obtain rfl : w1 = (.int i1) := Option.some.inj ei1
  obtain ⟨i2, ei2⟩ := is_v ha2
  obtain rfl : w2 = (.int i2) := Option.some.inj ei2
  obtain ⟨i3, ei3⟩ := is_v ha3
  obtain rfl : w3 = (.int i3) := Option.some.inj ei3
  obtain ⟨i4, ei4⟩ := is_v ha4
  obtain rfl : w4 = (.int i4) := Option.some.inj ei4
  obtain ⟨hsets, hown0⟩ := atoms_of _ (rest_1_c_eq ▸ (show rest_1_c.before _ s = true from hrest))
  obtain ⟨G1, eG1⟩ := is_v (Cond.before_iff.mp (hsets _ (List.mem_of_getElem? (i := 1) rfl)))
  have S0 := Sta.start eG1 (Or.inl (hsets _ (List.mem_of_getElem? (i := 0) rfl)))
  have P5 : ¬ G1 = (0 : Int32) := gotF (Cond.eq_ints eG1 (Term.int_eval 0)) (not_v (Cond.before_iff.mp (hsets _ (List.mem_of_getElem? (i := 2) rfl))))
  obtain ⟨G3, eG3, rG3⟩ := isR_v (Cond.before_iff.mp (hsets _ (List.mem_of_getElem? (i := 8) rfl)))
  have S1 := Sta.start eG3 (Or.inl (hsets _ (List.mem_of_getElem? (i := 7) rfl)))
  obtain ⟨n, o, h1, h2, h3, _, L, rfl, ⟨rfl, N⟩, hq⟩ := rm_law l s _ hw i0 i1 i2 i3 i4 G1 G3 s.heap s.heap.size (Nat.le_refl _) (Old.start s) S0 P5 S1 rG3 tables_1 p e ha hc hk s m _ below hf ((Spec.applies_iff_loose hf).mp happ).1 ⟨rfl, State.Warmed39.refl s, rfl⟩ trivial
  refine ⟨n, _, h1, h2, h3, hpost _ _ _ _ _ _ ⟨Cond.after_iff.mpr rfl, Cond.after_iff.mpr (eq_i res_at (Term.int_eval (1)) rfl), trivial⟩ ⟨hq.1, hq.2.1, hq.2.2.1, (hq.2.2.2.sift fun y hy => Or.inr (N y hy)).mono (by decide) (by decide)⟩⟩
theorem main_1_1 : Claimed_1_1 := comes_1 fun _ _ _ _ _ _ h hF => ⟨h.1, hF⟩
theorem main_1_2 : Claimed_1_2 := comes_1 fun _ _ _ _ _ _ h hF => ⟨h.2.1, hF⟩
end Jvm.Pilot.@@N@@
namespace Jvm.Pilot.@@N@@
open Jvm Jvm.ClassFile Sem Op Lib Jvm.Free Jvm.Stand Jvm.Pilot.@@N@@.Jvm.D
/-! MADE BY PROGRAM (witnessworld.py) out of the Statement's table words and the real class files: 20 classes; the members and pool entries that the words name. The judged class is class 1, her method 3. -/
namespace start1
open Jvm.ClassFile
def u (s : String) : CpInfo := .utf8 (stringToUtf16 s)
/-- a pool by its gaps: so many unusable entries, then the entry; so many at the end -/
def gap : Nat → List CpInfo → List CpInfo
  | 0, r => r
  | n + 1, r => .unusable :: gap n r
def poolList (es : List (Nat × CpInfo)) (last : Nat) : List CpInfo := es.foldr (fun e r => gap e.1 (e.2 :: r)) (gap last [])
def pool (es : List (Nat × CpInfo)) (last : Nat) : Array CpInfo := ⟨poolList es last⟩
def fileOf (pool : Array CpInfo) (this : Nat) (attrs : Array Attribute := #[]) (ms : Array MethodInfo := #[]) (fl : Nat := 33) (sup : Nat := 0) (ifs : Array Nat := #[]) (fds : Array FieldInfo := #[]) : ClassFile where
  minorVersion := 0
  majorVersion := 65
  constantPool := pool
  accessFlags := fl
  thisClass := this
  superClass := sup
  interfaces := ifs
  fields := fds
  methods := ms
  attributes := attrs
def plain (name : String) (sup : Option ClassId) : Class where
  name := name
  kind := .ordinary
  loader := none
  accessFlags := 33
  super := sup
  interfaces := #[]
  cf := none
  fields := #[]
  methods := #[]
  instanceTypes := #[]
  staticTypes := #[]
  resolved := #[]
  callSites := []
  init := .initialized
  statics := none
  mirror := none

def pool0 : Array CpInfo := pool [(5, u "<init>"), (0, u "()V"), (1, .class_ 10), (1, u "java/lang/Object")] 113

def k0c0 : Code := { maxStack := 0, maxLocals := 1, code := object_method_1_code, exceptionTable := #[], attributes := #[] }
def k0m0 : Method := { name := "<init>", desc := "()V", sig := { parameters := [], returnType := none }, accessFlags := 1, code := some k0c0 }
/-- java/lang/Object -/
def k0 : Class := { plain "java/lang/Object" none with
  accessFlags := 33
  interfaces := #[]
  cf := some (fileOf pool0 8 #[] #[{ accessFlags := 1, nameIndex := 5, descriptorIndex := 6, attributes := #[] }] 33 0 #[] #[])
  fields := #[]
  methods := #[k0m0]
  instanceTypes := #[]
  staticTypes := #[]
  resolved := Array.replicate 124 none
  statics := none }

def pool1 : Array CpInfo := pool [(2, .class_ 4), (0, .nameAndType 5 6), (0, u "java/lang/Object"), (0, u "<init>"), (0, u "()V"), (0, .methodref 8 9), (0, .class_ 10), (0, .nameAndType 11 12), (0, u "com/example/profitmine/profitmine/io/FieldsWalkPinLaw"), (0, u "draw"), (0, u "(I)C"), (0, .class_ 14), (0, u "java/lang/String"), (0, .methodref 13 16), (0, .nameAndType 5 17), (0, u "([C)V"), (0, .class_ 19), (0, u "com/example/profitmine/profitmine/io/Fields"), (0, .methodref 18 3), (0, .methodref 18 22), (0, .nameAndType 23 24), (0, u "walk"), (0, u "(Ljava/lang/String;)V"), (0, .methodref 18 26), (0, .nameAndType 27 28), (0, u "next"), (0, u "()Z"), (0, .methodref 18 30), (0, .nameAndType 31 32), (0, u "line"), (0, u "()Ljava/lang/String;"), (0, .methodref 18 34), (0, .nameAndType 35 36), (0, u "start"), (0, u "()I"), (0, .methodref 18 38), (0, .nameAndType 39 36), (0, u "end"), (0, .methodref 8 41), (0, .nameAndType 42 43), (0, u "blank"), (0, u "(C)Z"), (3, u "law"), (0, u "(IIIII)Z")] 4

def k1m0 : Method := { name := "<init>", desc := "()V", sig := { parameters := [], returnType := none }, accessFlags := 1, code := none }
def k1c1 : Code := { maxStack := 2, maxLocals := 2, code := method_2_code, exceptionTable := #[], attributes := #[] }
def k1m1 : Method := { name := "draw", desc := "(I)C", sig := { parameters := [.int], returnType := some .char }, accessFlags := 10, code := some k1c1 }
def k1c2 : Code := { maxStack := 2, maxLocals := 1, code := method_3_code, exceptionTable := #[], attributes := #[] }
def k1m2 : Method := { name := "blank", desc := "(C)Z", sig := { parameters := [.char], returnType := some .boolean }, accessFlags := 10, code := some k1c2 }
def k1c3 : Code := { maxStack := 5, maxLocals := 17, code := code, exceptionTable := #[], attributes := #[] }
def k1m3 : Method := { name := "law", desc := "(IIIII)Z", sig := { parameters := [.int, .int, .int, .int, .int], returnType := some .boolean }, accessFlags := 9, code := some k1c3 }
/-- com/example/profitmine/profitmine/io/FieldsWalkPinLaw -/
def k1 : Class := { plain "com/example/profitmine/profitmine/io/FieldsWalkPinLaw" (some 0) with
  accessFlags := 49
  interfaces := #[]
  cf := some (fileOf pool1 8 #[] #[{ accessFlags := 1, nameIndex := 5, descriptorIndex := 6, attributes := #[] }, { accessFlags := 10, nameIndex := 11, descriptorIndex := 12, attributes := #[] }, { accessFlags := 10, nameIndex := 42, descriptorIndex := 43, attributes := #[] }, { accessFlags := 9, nameIndex := 47, descriptorIndex := 48, attributes := #[] }] 49 2 #[] #[])
  fields := #[]
  methods := #[k1m0, k1m1, k1m2, k1m3]
  instanceTypes := #[]
  staticTypes := #[]
  resolved := Array.replicate 53 none
  statics := none }

def pool2 : Array CpInfo := pool [(1, .class_ 2), (0, u "java/io/Serializable"), (0, .class_ 4), (0, u "java/lang/Object")] 2

/-- java/io/Serializable -/
def k2 : Class := { plain "java/io/Serializable" (some 0) with
  accessFlags := 1537
  interfaces := #[]
  cf := some (fileOf pool2 1 #[] #[] 1537 3 #[] #[])
  fields := #[]
  methods := #[]
  instanceTypes := #[]
  staticTypes := #[]
  resolved := Array.replicate 7 none
  statics := none }

def pool3 : Array CpInfo := pool [(1, .class_ 2), (0, u "java/lang/Comparable"), (0, .class_ 4), (0, u "java/lang/Object")] 7

/-- java/lang/Comparable -/
def k3 : Class := { plain "java/lang/Comparable" (some 0) with
  accessFlags := 1537
  interfaces := #[]
  cf := some (fileOf pool3 1 #[] #[] 1537 3 #[] #[])
  fields := #[]
  methods := #[]
  instanceTypes := #[]
  staticTypes := #[]
  resolved := Array.replicate 12 none
  statics := none }

def pool4 : Array CpInfo := pool [(2, .class_ 4), (1, u "java/lang/CharSequence"), (42, .class_ 48), (0, u "java/lang/CharSequence$1CodePointIterator"), (10, .class_ 60), (0, u "java/lang/CharSequence$1CharIterator"), (5, .class_ 67), (0, u "java/lang/Object")] 63

/-- java/lang/CharSequence -/
def k4 : Class := { plain "java/lang/CharSequence" (some 0) with
  accessFlags := 1537
  interfaces := #[]
  cf := some (fileOf pool4 2 #[.nestMembers #[47, 59]] #[] 1537 66 #[] #[])
  fields := #[]
  methods := #[]
  instanceTypes := #[]
  staticTypes := #[]
  resolved := Array.replicate 131 none
  statics := none }

def pool5 : Array CpInfo := pool [(1, .class_ 2), (0, u "java/lang/constant/Constable"), (0, .class_ 4), (0, u "java/lang/Object")] 6

/-- java/lang/constant/Constable -/
def k5 : Class := { plain "java/lang/constant/Constable" (some 0) with
  accessFlags := 1537
  interfaces := #[]
  cf := some (fileOf pool5 1 #[] #[] 1537 3 #[] #[])
  fields := #[]
  methods := #[]
  instanceTypes := #[]
  staticTypes := #[]
  resolved := Array.replicate 11 none
  statics := none }

def pool6 : Array CpInfo := pool [(1, .class_ 2), (0, u "java/lang/constant/ConstantDesc"), (0, .class_ 4), (0, u "java/lang/Object")] 32

/-- java/lang/constant/ConstantDesc -/
def k6 : Class := { plain "java/lang/constant/ConstantDesc" (some 0) with
  accessFlags := 1537
  interfaces := #[]
  cf := some (fileOf pool6 1 #[] #[] 1537 3 #[] #[])
  fields := #[]
  methods := #[]
  instanceTypes := #[]
  staticTypes := #[]
  resolved := Array.replicate 37 none
  statics := none }

def pool7 : Array CpInfo := pool [(1, .methodref 2 3), (0, .class_ 4), (0, .nameAndType 5 6), (0, u "java/lang/Object"), (0, u "<init>"), (0, u "()V"), (2, .fieldref 10 11), (0, .class_ 12), (0, .nameAndType 13 14), (0, u "java/lang/String"), (0, u "value"), (0, u "[B"), (0, .fieldref 10 16), (0, .nameAndType 17 18), (0, u "coder"), (0, u "B"), (2, u "hash"), (0, u "I"), (2, u "hashIsZero"), (0, u "Z"), (0, .methodref 10 28), (0, .nameAndType 5 29), (0, u "([CIILjava/lang/Void;)V"), (8, .fieldref 10 39), (0, .nameAndType 40 26), (0, u "COMPACT_STRINGS"), (1, .class_ 44), (1, u "java/lang/StringUTF16"), (0, u "compress"), (1, .methodref 42 48), (0, .nameAndType 49 50), (0, u "coderFromArrayLen"), (0, u "([BI)B"), (56, .class_ 109), (1, u "java/lang/StringLatin1"), (32, u "()Z"), (34, .methodref 42 178), (0, .nameAndType 45 179), (0, u "([CII)[B"), (154, u "()I"), (0, .methodref 10 336), (0, .nameAndType 17 337), (0, u "()B"), (25, u "([BI)C"), (27, u "(II)V"), (35, u "(I)C"), (64, .methodref 10 493), (0, .nameAndType 494 142), (0, u "isLatin1"), (0, .methodref 107 496), (0, .nameAndType 497 363), (0, u "charAt"), (3, u "checkIndex"), (5, u "length"), (67, .class_ 576), (0, u "java/lang/CharSequence"), (22, u "CASE_INSENSITIVE_ORDER"), (0, u "Ljava/util/Comparator;"), (409, u "([C)V"), (42, .fieldref 1054 1055), (0, .class_ 1056), (0, .nameAndType 1057 1058), (0, u "jdk/internal/util/Preconditions"), (0, u "SIOOBE_FORMATTER"), (0, u "Ljava/util/function/BiFunction;"), (0, .methodref 1054 1060), (0, .nameAndType 501 1061), (0, u "(IILjava/util/function/BiFunction;)I"), (39, u "serialPersistentFields"), (0, u "[Ljava/io/ObjectStreamField;"), (0, .class_ 1104), (0, u "java/lang/String$CaseInsensitiveComparator"), (1, .class_ 1107), (0, u "java/io/Serializable"), (0, .class_ 1109), (0, u "java/lang/Comparable"), (0, .class_ 1111), (0, u "java/lang/constant/Constable"), (0, .class_ 1113), (0, u "java/lang/constant/ConstantDesc"), (2, u "serialVersionUID"), (0, u "J"), (3, u "REPL"), (0, u "C"), (2, u "LATIN1"), (1, u "UTF16")] 323

def k7m0 : Method := { name := "<init>", desc := "()V", sig := { parameters := [], returnType := none }, accessFlags := 1, code := none }
def k7c1 : Code := { maxStack := 5, maxLocals := 2, code := jdk_42_method_3_code, exceptionTable := #[], attributes := #[] }
def k7m1 : Method := { name := "<init>", desc := "([C)V", sig := { parameters := [(.array .char)], returnType := none }, accessFlags := 1, code := some k7c1 }
def k7c2 : Code := { maxStack := 2, maxLocals := 1, code := jdk_42_method_54_code, exceptionTable := #[], attributes := #[] }
def k7m2 : Method := { name := "length", desc := "()I", sig := { parameters := [], returnType := some .int }, accessFlags := 1, code := some k7c2 }
def k7c3 : Code := { maxStack := 2, maxLocals := 2, code := jdk_42_method_56_code, exceptionTable := #[], attributes := #[] }
def k7m3 : Method := { name := "charAt", desc := "(I)C", sig := { parameters := [.int], returnType := some .char }, accessFlags := 1, code := some k7c3 }
def k7c4 : Code := { maxStack := 4, maxLocals := 6, code := jdk_42_method_149_code, exceptionTable := #[], attributes := #[] }
def k7m4 : Method := { name := "<init>", desc := "([CIILjava/lang/Void;)V", sig := { parameters := [(.array .char), .int, .int, (.object "java/lang/Void")], returnType := none }, accessFlags := 2, code := some k7c4 }
def k7c5 : Code := { maxStack := 1, maxLocals := 1, code := jdk_42_method_152_code, exceptionTable := #[], attributes := #[] }
def k7m5 : Method := { name := "coder", desc := "()B", sig := { parameters := [], returnType := some .byte }, accessFlags := 0, code := some k7c5 }
def k7c6 : Code := { maxStack := 1, maxLocals := 1, code := jdk_42_method_154_code, exceptionTable := #[], attributes := #[] }
def k7m6 : Method := { name := "isLatin1", desc := "()Z", sig := { parameters := [], returnType := some .boolean }, accessFlags := 0, code := some k7c6 }
def k7c7 : Code := { maxStack := 3, maxLocals := 2, code := jdk_42_method_155_code, exceptionTable := #[], attributes := #[] }
def k7m7 : Method := { name := "checkIndex", desc := "(II)V", sig := { parameters := [.int, .int], returnType := none }, accessFlags := 8, code := some k7c7 }
/-- java/lang/String -/
def k7 : Class := { plain "java/lang/String" (some 0) with
  accessFlags := 49
  interfaces := #[2, 3, 4, 5, 6]
  cf := some (fileOf pool7 10 #[.nestMembers #[1103]] #[{ accessFlags := 1, nameIndex := 5, descriptorIndex := 6, attributes := #[] }, { accessFlags := 1, nameIndex := 5, descriptorIndex := 1010, attributes := #[] }, { accessFlags := 1, nameIndex := 507, descriptorIndex := 334, attributes := #[] }, { accessFlags := 1, nameIndex := 497, descriptorIndex := 427, attributes := #[] }, { accessFlags := 2, nameIndex := 5, descriptorIndex := 29, attributes := #[] }, { accessFlags := 0, nameIndex := 17, descriptorIndex := 337, attributes := #[] }, { accessFlags := 0, nameIndex := 494, descriptorIndex := 142, attributes := #[] }, { accessFlags := 8, nameIndex := 501, descriptorIndex := 391, attributes := #[] }] 49 2 #[1106, 1108, 575, 1110, 1112] #[{ accessFlags := 18, nameIndex := 13, descriptorIndex := 14, attributes := #[] }, { accessFlags := 18, nameIndex := 17, descriptorIndex := 18, attributes := #[] }, { accessFlags := 2, nameIndex := 21, descriptorIndex := 22, attributes := #[] }, { accessFlags := 2, nameIndex := 25, descriptorIndex := 26, attributes := #[] }, { accessFlags := 26, nameIndex := 1116, descriptorIndex := 1117, attributes := #[] }, { accessFlags := 24, nameIndex := 40, descriptorIndex := 26, attributes := #[] }, { accessFlags := 26, nameIndex := 1101, descriptorIndex := 1102, attributes := #[] }, { accessFlags := 26, nameIndex := 1121, descriptorIndex := 1122, attributes := #[] }, { accessFlags := 25, nameIndex := 599, descriptorIndex := 600, attributes := #[] }, { accessFlags := 24, nameIndex := 1125, descriptorIndex := 18, attributes := #[] }, { accessFlags := 24, nameIndex := 1127, descriptorIndex := 18, attributes := #[] }])
  fields := #[{ name := "value", type := (.array .byte), accessFlags := 18, slot := 0, constantValue := 0 }, { name := "coder", type := .byte, accessFlags := 18, slot := 1, constantValue := 0 }, { name := "hash", type := .int, accessFlags := 2, slot := 2, constantValue := 0 }, { name := "hashIsZero", type := .boolean, accessFlags := 2, slot := 3, constantValue := 0 }, { name := "serialVersionUID", type := .long, accessFlags := 26, slot := 0, constantValue := 0 }, { name := "COMPACT_STRINGS", type := .boolean, accessFlags := 24, slot := 1, constantValue := 0 }, { name := "serialPersistentFields", type := (.array (.object "java/io/ObjectStreamField")), accessFlags := 26, slot := 2, constantValue := 0 }, { name := "REPL", type := .char, accessFlags := 26, slot := 3, constantValue := 0 }, { name := "CASE_INSENSITIVE_ORDER", type := (.object "java/util/Comparator"), accessFlags := 25, slot := 4, constantValue := 0 }, { name := "LATIN1", type := .byte, accessFlags := 24, slot := 5, constantValue := 0 }, { name := "UTF16", type := .byte, accessFlags := 24, slot := 6, constantValue := 0 }]
  methods := #[k7m0, k7m1, k7m2, k7m3, k7m4, k7m5, k7m6, k7m7]
  instanceTypes := #[(.array .byte), .byte, .int, .boolean]
  staticTypes := #[.long, .boolean, (.array (.object "java/io/ObjectStreamField")), .char, (.object "java/util/Comparator"), .byte, .byte]
  resolved := Array.replicate 1451 none
  statics := some 0 }

def pool8 : Array CpInfo := pool [(6, .class_ 8), (1, u "java/lang/Object"), (0, u "<init>"), (0, u "()V"), (1, .class_ 14), (1, u "java/lang/StringUTF16"), (31, u "$assertionsDisabled"), (0, u "Z"), (13, u "HI_BYTE_SHIFT"), (0, u "I"), (2, u "LO_BYTE_SHIFT"), (49, .methodref 12 116), (0, .nameAndType 117 118), (0, u "compress"), (0, u "([CI[BII)I"), (3, u "([CII)[B"), (138, u "coderFromArrayLen"), (0, u "([BI)B"), (106, .class_ 371), (1, u "java/lang/StringUTF16$LinesSpliterator"), (58, u "MAX_LENGTH"), (196, .class_ 628), (0, u "java/lang/StringUTF16$CodePointsSpliterator"), (0, .class_ 630), (0, u "java/lang/StringUTF16$CharsSpliterator")] 4

def k8m0 : Method := { name := "<init>", desc := "()V", sig := { parameters := [], returnType := none }, accessFlags := 0, code := none }
def k8c1 : Code := { maxStack := 2, maxLocals := 2, code := jdk_52_method_15_code, exceptionTable := #[], attributes := #[] }
def k8m1 : Method := { name := "coderFromArrayLen", desc := "([BI)B", sig := { parameters := [(.array .byte), .int], returnType := some .byte }, accessFlags := 8, code := some k8c1 }
def k8c2 : Code := { maxStack := 5, maxLocals := 6, code := jdk_52_method_16_code, exceptionTable := #[], attributes := #[] }
def k8m2 : Method := { name := "compress", desc := "([CII)[B", sig := { parameters := [(.array .char), .int, .int], returnType := some (.array .byte) }, accessFlags := 9, code := some k8c2 }
def k8c3 : Code := { maxStack := 3, maxLocals := 7, code := jdk_52_method_21_code, exceptionTable := #[], attributes := #[] }
def k8m3 : Method := { name := "compress", desc := "([CI[BII)I", sig := { parameters := [(.array .char), .int, (.array .byte), .int, .int], returnType := some .int }, accessFlags := 9, code := some k8c3 }
/-- java/lang/StringUTF16 -/
def k8 : Class := { plain "java/lang/StringUTF16" (some 0) with
  accessFlags := 48
  interfaces := #[]
  cf := some (fileOf pool8 12 #[.nestMembers #[627, 629, 369]] #[{ accessFlags := 0, nameIndex := 9, descriptorIndex := 10, attributes := #[] }, { accessFlags := 8, nameIndex := 261, descriptorIndex := 262, attributes := #[] }, { accessFlags := 9, nameIndex := 117, descriptorIndex := 122, attributes := #[] }, { accessFlags := 9, nameIndex := 117, descriptorIndex := 118, attributes := #[] }] 48 6 #[] #[{ accessFlags := 26, nameIndex := 61, descriptorIndex := 62, attributes := #[] }, { accessFlags := 26, nameIndex := 65, descriptorIndex := 62, attributes := #[] }, { accessFlags := 24, nameIndex := 430, descriptorIndex := 62, attributes := #[] }, { accessFlags := 4120, nameIndex := 46, descriptorIndex := 47, attributes := #[] }])
  fields := #[{ name := "HI_BYTE_SHIFT", type := .int, accessFlags := 26, slot := 0, constantValue := 0 }, { name := "LO_BYTE_SHIFT", type := .int, accessFlags := 26, slot := 1, constantValue := 0 }, { name := "MAX_LENGTH", type := .int, accessFlags := 24, slot := 2, constantValue := 0 }, { name := "$assertionsDisabled", type := .boolean, accessFlags := 4120, slot := 3, constantValue := 0 }]
  methods := #[k8m0, k8m1, k8m2, k8m3]
  instanceTypes := #[]
  staticTypes := #[.int, .int, .int, .boolean]
  resolved := Array.replicate 635 none
  statics := none }

def pool9 : Array CpInfo := pool [(3, .methodref 4 5), (0, .class_ 6), (0, .nameAndType 7 8), (0, u "java/lang/Object"), (0, u "<init>"), (0, u "()V"), (0, .string 10), (0, u ""), (0, .fieldref 12 13), (0, .class_ 14), (0, .nameAndType 15 16), (0, u "com/example/profitmine/profitmine/io/Fields"), (0, u "line"), (0, u "Ljava/lang/String;"), (0, .fieldref 12 18), (0, .nameAndType 19 20), (0, u "count"), (0, u "I"), (0, .fieldref 12 22), (0, .nameAndType 23 20), (0, u "start"), (0, .fieldref 12 25), (0, .nameAndType 26 20), (0, u "end"), (0, .methodref 28 29), (0, .class_ 30), (0, .nameAndType 31 32), (0, u "java/lang/String"), (0, u "length"), (0, u "()I"), (0, .methodref 28 34), (0, .nameAndType 35 36), (0, u "charAt"), (0, u "(I)C"), (0, .methodref 12 38), (0, .nameAndType 39 40), (0, u "isBlank"), (0, u "(C)Z"), (15, u "walk"), (0, u "(Ljava/lang/String;)V"), (5, u "next"), (0, u "()Z"), (3, u "()Ljava/lang/String;"), (35, u "RANGE")] 33

def k9c0 : Code := { maxStack := 2, maxLocals := 1, code := prog_26_method_1_code, exceptionTable := #[], attributes := #[] }
def k9m0 : Method := { name := "<init>", desc := "()V", sig := { parameters := [], returnType := none }, accessFlags := 0, code := some k9c0 }
def k9c1 : Code := { maxStack := 2, maxLocals := 2, code := prog_26_method_2_code, exceptionTable := #[], attributes := #[] }
def k9m1 : Method := { name := "walk", desc := "(Ljava/lang/String;)V", sig := { parameters := [(.object "java/lang/String")], returnType := none }, accessFlags := 0, code := some k9c1 }
def k9c2 : Code := { maxStack := 3, maxLocals := 3, code := prog_26_method_3_code, exceptionTable := #[], attributes := #[] }
def k9m2 : Method := { name := "next", desc := "()Z", sig := { parameters := [], returnType := some .boolean }, accessFlags := 0, code := some k9c2 }
def k9c3 : Code := { maxStack := 1, maxLocals := 1, code := prog_26_method_4_code, exceptionTable := #[], attributes := #[] }
def k9m3 : Method := { name := "line", desc := "()Ljava/lang/String;", sig := { parameters := [], returnType := some (.object "java/lang/String") }, accessFlags := 0, code := some k9c3 }
def k9c4 : Code := { maxStack := 1, maxLocals := 1, code := prog_26_method_5_code, exceptionTable := #[], attributes := #[] }
def k9m4 : Method := { name := "start", desc := "()I", sig := { parameters := [], returnType := some .int }, accessFlags := 0, code := some k9c4 }
def k9c5 : Code := { maxStack := 1, maxLocals := 1, code := prog_26_method_6_code, exceptionTable := #[], attributes := #[] }
def k9m5 : Method := { name := "end", desc := "()I", sig := { parameters := [], returnType := some .int }, accessFlags := 0, code := some k9c5 }
def k9c6 : Code := { maxStack := 2, maxLocals := 1, code := prog_26_method_14_code, exceptionTable := #[], attributes := #[] }
def k9m6 : Method := { name := "isBlank", desc := "(C)Z", sig := { parameters := [.char], returnType := some .boolean }, accessFlags := 10, code := some k9c6 }
/-- com/example/profitmine/profitmine/io/Fields -/
def k9 : Class := { plain "com/example/profitmine/profitmine/io/Fields" (some 0) with
  accessFlags := 48
  interfaces := #[]
  cf := some (fileOf pool9 12 #[] #[{ accessFlags := 0, nameIndex := 7, descriptorIndex := 8, attributes := #[] }, { accessFlags := 0, nameIndex := 56, descriptorIndex := 57, attributes := #[] }, { accessFlags := 0, nameIndex := 63, descriptorIndex := 64, attributes := #[] }, { accessFlags := 0, nameIndex := 15, descriptorIndex := 68, attributes := #[] }, { accessFlags := 0, nameIndex := 23, descriptorIndex := 32, attributes := #[] }, { accessFlags := 0, nameIndex := 26, descriptorIndex := 32, attributes := #[] }, { accessFlags := 10, nameIndex := 39, descriptorIndex := 40, attributes := #[] }] 48 4 #[] #[{ accessFlags := 26, nameIndex := 104, descriptorIndex := 16, attributes := #[] }, { accessFlags := 2, nameIndex := 15, descriptorIndex := 16, attributes := #[] }, { accessFlags := 2, nameIndex := 19, descriptorIndex := 20, attributes := #[] }, { accessFlags := 2, nameIndex := 23, descriptorIndex := 20, attributes := #[] }, { accessFlags := 2, nameIndex := 26, descriptorIndex := 20, attributes := #[] }])
  fields := #[{ name := "RANGE", type := (.object "java/lang/String"), accessFlags := 26, slot := 0, constantValue := 0 }, { name := "line", type := (.object "java/lang/String"), accessFlags := 2, slot := 0, constantValue := 0 }, { name := "count", type := .int, accessFlags := 2, slot := 1, constantValue := 0 }, { name := "start", type := .int, accessFlags := 2, slot := 2, constantValue := 0 }, { name := "end", type := .int, accessFlags := 2, slot := 3, constantValue := 0 }]
  methods := #[k9m0, k9m1, k9m2, k9m3, k9m4, k9m5, k9m6]
  instanceTypes := #[(.object "java/lang/String"), .int, .int, .int]
  staticTypes := #[(.object "java/lang/String")]
  resolved := Array.replicate 138 none
  statics := none }

def pool10 : Array CpInfo := pool [(1, .class_ 2), (0, u "java/lang/String"), (1, .class_ 6), (1, u "java/lang/Object"), (0, u "<init>"), (0, u "()V"), (0, .methodref 1 10), (0, .nameAndType 11 12), (0, u "checkIndex"), (0, u "(II)V"), (1, .class_ 16), (1, u "java/lang/StringLatin1"), (36, u "([BI)C"), (67, u "$assertionsDisabled"), (0, u "Z"), (98, .class_ 223), (1, u "java/lang/StringLatin1$LinesSpliterator"), (28, u "charAt"), (137, .class_ 391), (0, u "java/lang/StringLatin1$CharsSpliterator")] 3

def k10m0 : Method := { name := "<init>", desc := "()V", sig := { parameters := [], returnType := none }, accessFlags := 0, code := none }
def k10c1 : Code := { maxStack := 2, maxLocals := 2, code := jdk_43_method_2_code, exceptionTable := #[], attributes := #[] }
def k10m1 : Method := { name := "charAt", desc := "([BI)C", sig := { parameters := [(.array .byte), .int], returnType := some .char }, accessFlags := 9, code := some k10c1 }
/-- java/lang/StringLatin1 -/
def k10 : Class := { plain "java/lang/StringLatin1" (some 0) with
  accessFlags := 48
  interfaces := #[]
  cf := some (fileOf pool10 14 #[.nestMembers #[390, 221]] #[{ accessFlags := 0, nameIndex := 7, descriptorIndex := 8, attributes := #[] }, { accessFlags := 9, nameIndex := 252, descriptorIndex := 53, attributes := #[] }] 48 4 #[] #[{ accessFlags := 4120, nameIndex := 121, descriptorIndex := 122, attributes := #[] }])
  fields := #[{ name := "$assertionsDisabled", type := .boolean, accessFlags := 4120, slot := 0, constantValue := 0 }]
  methods := #[k10m0, k10m1]
  instanceTypes := #[]
  staticTypes := #[.boolean]
  resolved := Array.replicate 395 none
  statics := none }

def pool11 : Array CpInfo := pool [(2, .class_ 4), (1, u "java/lang/Object"), (0, u "<init>"), (0, u "()V"), (17, .class_ 26), (1, u "jdk/internal/util/Preconditions"), (6, u "checkIndex"), (21, .class_ 56), (0, u "jdk/internal/util/Preconditions$4"), (57, .class_ 115), (0, u "jdk/internal/util/Preconditions$1"), (7, u "SIOOBE_FORMATTER"), (0, u "Ljava/util/function/BiFunction;"), (0, .class_ 126), (0, u "jdk/internal/util/Preconditions$2"), (3, u "AIOOBE_FORMATTER"), (0, .class_ 132), (0, u "jdk/internal/util/Preconditions$3"), (3, u "IOOBE_FORMATTER"), (41, u "(IILjava/util/function/BiFunction;)I")] 15

def k11m0 : Method := { name := "<init>", desc := "()V", sig := { parameters := [], returnType := none }, accessFlags := 1, code := none }
def k11c1 : Code := { maxStack := 3, maxLocals := 3, code := jdk_41_method_11_code, exceptionTable := #[], attributes := #[] }
def k11m1 : Method := { name := "checkIndex", desc := "(IILjava/util/function/BiFunction;)I", sig := { parameters := [.int, .int, (.object "java/util/function/BiFunction")], returnType := some .int }, accessFlags := 9, code := some k11c1 }
/-- jdk/internal/util/Preconditions -/
def k11 : Class := { plain "jdk/internal/util/Preconditions" (some 0) with
  accessFlags := 33
  interfaces := #[]
  cf := some (fileOf pool11 24 #[.nestMembers #[55, 131, 125, 114]] #[{ accessFlags := 1, nameIndex := 5, descriptorIndex := 6, attributes := #[] }, { accessFlags := 9, nameIndex := 33, descriptorIndex := 178, attributes := #[] }] 33 2 #[] #[{ accessFlags := 25, nameIndex := 123, descriptorIndex := 124, attributes := #[] }, { accessFlags := 25, nameIndex := 130, descriptorIndex := 124, attributes := #[] }, { accessFlags := 25, nameIndex := 136, descriptorIndex := 124, attributes := #[] }])
  fields := #[{ name := "SIOOBE_FORMATTER", type := (.object "java/util/function/BiFunction"), accessFlags := 25, slot := 0, constantValue := 0 }, { name := "AIOOBE_FORMATTER", type := (.object "java/util/function/BiFunction"), accessFlags := 25, slot := 1, constantValue := 0 }, { name := "IOOBE_FORMATTER", type := (.object "java/util/function/BiFunction"), accessFlags := 25, slot := 2, constantValue := 0 }]
  methods := #[k11m0, k11m1]
  instanceTypes := #[]
  staticTypes := #[(.object "java/util/function/BiFunction"), (.object "java/util/function/BiFunction"), (.object "java/util/function/BiFunction")]
  resolved := Array.replicate 194 none
  statics := some 1 }

def pool12 : Array CpInfo := pool [(9, u "<init>"), (6, .class_ 18), (1, u "java/lang/Object"), (0, u "()V"), (1, .class_ 23), (1, u "jdk/internal/util/ArraysSupport"), (0, u "LOG2_ARRAY_LONG_INDEX_SCALE"), (0, u "I"), (2, u "U"), (0, u "Ljdk/internal/misc/Unsafe;"), (8, u "BIG_ENDIAN"), (0, u "Z"), (8, u "LOG2_BYTE_BIT_SIZE"), (4, u "LOG2_ARRAY_INT_INDEX_SCALE"), (54, u "JLA"), (0, u "Ljdk/internal/access/JavaLangAccess;"), (11, u "LOG2_ARRAY_BOOLEAN_INDEX_SCALE"), (9, u "LOG2_ARRAY_BYTE_INDEX_SCALE"), (5, u "LOG2_ARRAY_CHAR_INDEX_SCALE"), (5, u "LOG2_ARRAY_SHORT_INDEX_SCALE"), (18, u "LOG2_ARRAY_FLOAT_INDEX_SCALE"), (24, u "LOG2_ARRAY_DOUBLE_INDEX_SCALE"), (89, u "T_BOOLEAN"), (2, u "T_CHAR"), (1, u "T_FLOAT"), (1, u "T_DOUBLE"), (1, u "T_BYTE"), (1, u "T_SHORT"), (1, u "T_INT"), (1, u "T_LONG"), (1, u "SOFT_MAX_ARRAY_LENGTH")] 83

def k12m0 : Method := { name := "<init>", desc := "()V", sig := { parameters := [], returnType := none }, accessFlags := 2, code := none }
/-- jdk/internal/util/ArraysSupport -/
def k12 : Class := { plain "jdk/internal/util/ArraysSupport" (some 0) with
  accessFlags := 33
  interfaces := #[]
  cf := some (fileOf pool12 21 #[] #[{ accessFlags := 2, nameIndex := 9, descriptorIndex := 19, attributes := #[] }] 33 16 #[] #[{ accessFlags := 24, nameIndex := 28, descriptorIndex := 29, attributes := #[] }, { accessFlags := 26, nameIndex := 38, descriptorIndex := 39, attributes := #[] }, { accessFlags := 25, nameIndex := 121, descriptorIndex := 25, attributes := #[] }, { accessFlags := 25, nameIndex := 131, descriptorIndex := 25, attributes := #[] }, { accessFlags := 25, nameIndex := 137, descriptorIndex := 25, attributes := #[] }, { accessFlags := 25, nameIndex := 143, descriptorIndex := 25, attributes := #[] }, { accessFlags := 25, nameIndex := 53, descriptorIndex := 25, attributes := #[] }, { accessFlags := 25, nameIndex := 24, descriptorIndex := 25, attributes := #[] }, { accessFlags := 25, nameIndex := 162, descriptorIndex := 25, attributes := #[] }, { accessFlags := 25, nameIndex := 187, descriptorIndex := 25, attributes := #[] }, { accessFlags := 26, nameIndex := 48, descriptorIndex := 25, attributes := #[] }, { accessFlags := 25, nameIndex := 277, descriptorIndex := 25, attributes := #[] }, { accessFlags := 25, nameIndex := 280, descriptorIndex := 25, attributes := #[] }, { accessFlags := 25, nameIndex := 282, descriptorIndex := 25, attributes := #[] }, { accessFlags := 25, nameIndex := 284, descriptorIndex := 25, attributes := #[] }, { accessFlags := 25, nameIndex := 286, descriptorIndex := 25, attributes := #[] }, { accessFlags := 25, nameIndex := 288, descriptorIndex := 25, attributes := #[] }, { accessFlags := 25, nameIndex := 290, descriptorIndex := 25, attributes := #[] }, { accessFlags := 25, nameIndex := 292, descriptorIndex := 25, attributes := #[] }, { accessFlags := 26, nameIndex := 108, descriptorIndex := 109, attributes := #[] }, { accessFlags := 25, nameIndex := 294, descriptorIndex := 25, attributes := #[] }])
  fields := #[{ name := "U", type := (.object "jdk/internal/misc/Unsafe"), accessFlags := 24, slot := 0, constantValue := 0 }, { name := "BIG_ENDIAN", type := .boolean, accessFlags := 26, slot := 1, constantValue := 0 }, { name := "LOG2_ARRAY_BOOLEAN_INDEX_SCALE", type := .int, accessFlags := 25, slot := 2, constantValue := 0 }, { name := "LOG2_ARRAY_BYTE_INDEX_SCALE", type := .int, accessFlags := 25, slot := 3, constantValue := 0 }, { name := "LOG2_ARRAY_CHAR_INDEX_SCALE", type := .int, accessFlags := 25, slot := 4, constantValue := 0 }, { name := "LOG2_ARRAY_SHORT_INDEX_SCALE", type := .int, accessFlags := 25, slot := 5, constantValue := 0 }, { name := "LOG2_ARRAY_INT_INDEX_SCALE", type := .int, accessFlags := 25, slot := 6, constantValue := 0 }, { name := "LOG2_ARRAY_LONG_INDEX_SCALE", type := .int, accessFlags := 25, slot := 7, constantValue := 0 }, { name := "LOG2_ARRAY_FLOAT_INDEX_SCALE", type := .int, accessFlags := 25, slot := 8, constantValue := 0 }, { name := "LOG2_ARRAY_DOUBLE_INDEX_SCALE", type := .int, accessFlags := 25, slot := 9, constantValue := 0 }, { name := "LOG2_BYTE_BIT_SIZE", type := .int, accessFlags := 26, slot := 10, constantValue := 0 }, { name := "T_BOOLEAN", type := .int, accessFlags := 25, slot := 11, constantValue := 0 }, { name := "T_CHAR", type := .int, accessFlags := 25, slot := 12, constantValue := 0 }, { name := "T_FLOAT", type := .int, accessFlags := 25, slot := 13, constantValue := 0 }, { name := "T_DOUBLE", type := .int, accessFlags := 25, slot := 14, constantValue := 0 }, { name := "T_BYTE", type := .int, accessFlags := 25, slot := 15, constantValue := 0 }, { name := "T_SHORT", type := .int, accessFlags := 25, slot := 16, constantValue := 0 }, { name := "T_INT", type := .int, accessFlags := 25, slot := 17, constantValue := 0 }, { name := "T_LONG", type := .int, accessFlags := 25, slot := 18, constantValue := 0 }, { name := "JLA", type := (.object "jdk/internal/access/JavaLangAccess"), accessFlags := 26, slot := 19, constantValue := 0 }, { name := "SOFT_MAX_ARRAY_LENGTH", type := .int, accessFlags := 25, slot := 20, constantValue := 0 }]
  methods := #[k12m0]
  instanceTypes := #[]
  staticTypes := #[(.object "jdk/internal/misc/Unsafe"), .boolean, .int, .int, .int, .int, .int, .int, .int, .int, .int, .int, .int, .int, .int, .int, .int, .int, .int, (.object "jdk/internal/access/JavaLangAccess"), .int]
  resolved := Array.replicate 378 none
  statics := none }

def pool13 : Array CpInfo := pool [(1, u "java/lang/Cloneable"), (0, .class_ 1), (0, u "java/lang/Object"), (0, .class_ 3)] 3

/-- java/lang/Cloneable -/
def k13 : Class := { plain "java/lang/Cloneable" (some 0) with
  accessFlags := 1537
  interfaces := #[]
  cf := some (fileOf pool13 2 #[] #[] 1537 4 #[] #[])
  fields := #[]
  methods := #[]
  instanceTypes := #[]
  staticTypes := #[]
  resolved := Array.replicate 8 none
  statics := none }

/-- the primitive byte -/
def k14 : Class := { plain "byte" none with kind := .primitive 'B', accessFlags := 0x411 }
/-- [B -/
def k15 : Class := { plain "[B" (some 0) with kind := .array 14 .byte, interfaces := #[13, 2], accessFlags := 1041 }

/-- the primitive char -/
def k16 : Class := { plain "char" none with kind := .primitive 'C', accessFlags := 0x411 }
/-- [C -/
def k17 : Class := { plain "[C" (some 0) with kind := .array 16 .char, interfaces := #[13, 2], accessFlags := 1041 }

/-- the primitive int -/
def k18 : Class := { plain "int" none with kind := .primitive 'I', accessFlags := 0x411 }
/-- [I -/
def k19 : Class := { plain "[I" (some 0) with kind := .array 18 .int, interfaces := #[13, 2], accessFlags := 1041 }

def heap : Heap := #[{ cls := 7, slots := #[.long 0, .int 1, .null, .int 0, .null, .int 0, .int 0], vm := .statics 7 },
  { cls := 11, slots := #[.null, .null, .null], vm := .statics 11 }]
def classes : Array Class := #[k0, k1, k2, k3, k4, k5, k6, k7, k8, k9, k10, k11, k12, k13, k14, k15, k16, k17, k18, k19]
def interned : List (Array UInt16 × Addr) := []
def slotsUsed : Nat := 10
def theMethod : MethodId := ⟨1, 3⟩
def args0 : Array Value := #[.int 5, .int 9, .int 300, .int 7, .int 3]
def aboutOver (below : List Frame) : State where
  vm := { classes := classes, interned := interned.toArray }
  heap := heap
  slotsUsed := slotsUsed
  threads := #[{ frames := .invoking theMethod args0 :: below }]
def below0 : List Frame := [.native { method := ⟨0, 0⟩, args := #[] }]
def about1 : State := aboutOver below0
def p0 : Program := .bare "" "" ""
def e0 : Env := launch0.env 0 0 0
theorem w_frames : about1.frames = Frame.invoking theMethod args0 :: below0 := rfl
set_option maxRecDepth 65536 in
theorem w_args : argsFit about1.vm theMethod args0 = true := by decide +kernel
set_option maxRecDepth 65536 in
theorem w_heap : heapFits about1 = true := by decide +kernel
set_option maxRecDepth 65536 in
theorem w_runnable : about1.curStatus? = some .runnable := by decide +kernel
set_option maxRecDepth 65536 in
theorem w_alone : about1.alone = true := by decide +kernel
set_option maxRecDepth 65536 in
theorem w_named : about1.methodNamed? x = some theMethod := by decide +kernel
set_option maxRecDepth 65536 in
theorem w_hears : about1.hears theMethod below0 = true := by decide +kernel
set_option maxRecDepth 65536 in
theorem w_ripe : about1.ripe theMethod args0 below0 = true := by decide +kernel
theorem w_running : about1.status = .running := rfl
set_option maxRecDepth 65536 in
theorem w_room : about1.hasRoom e0.platform room_1 = true :=
  launch0.hasRoom_least _ room_1 (by decide +kernel) (by decide +kernel) (by decide +kernel) (by decide +kernel) (by decide +kernel) (by decide +kernel)
theorem allAtoms_all (ts : List Jvm.Cond) (a : Array Jvm.Value) (st : Jvm.State) : (allAtoms ts).before a st = ts.all (fun c => c.before a st) := by
  induction ts with
  | nil => rfl
  | cons c t ih =>
    show (Jvm.Cond.and c (allAtoms t)).before a st = _
    rw [Jvm.Cond.before_and, ih, List.all_cons]
def words1 : List Jvm.Cond := Jvm.Cond.code x code maxLocals ret :: tables_1
/-- a 'code' word, met by the world's own term for the bytes: nothing is compared byte by byte -/
theorem code_word {y : MethodName} {bytes : ByteArray} {mx : Nat} {rt : Option FieldType} {a : Array Value} {s : State} {m : MethodId} {meth : Method} {c : Code} (h1 : s.methodNamed? y = some m) (h2 : s.vm.method? m = some meth) (h3 : meth.code = some c) (h4 : c.code = bytes)
    (h5 : (c.maxLocals == mx && c.exceptionTable.isEmpty && decide (c.maxStack ≤ mostOperands) && decide (meth.sig.returnType = rt) && !meth.locks && decide (parseMethodDescriptor y.desc = some meth.sig)) = true) : (Jvm.Cond.code y bytes mx rt).before a s = true := by
  simp only [Bool.and_eq_true, beq_iff_eq, Bool.not_eq_true', decide_eq_true_eq] at h5
  obtain ⟨⟨⟨⟨⟨g1, g2⟩, g3⟩, g4⟩, g5⟩, g6⟩ := h5
  simp [Cond.before, Cond.holds, Cond.value, h1, h2, h3, h4, g1, g2, g3, g4, g5, g6]
def isCode : Jvm.Cond → Bool
  | .code _ _ _ _ => true
  | _ => false
theorem all_split {L : List Jvm.Cond} {P : Jvm.Cond → Bool} (h1 : L.all (fun c => isCode c || P c) = true) (h2 : ∀ c ∈ L.filter isCode, P c = true) : L.all P = true := by
  refine List.all_eq_true.mpr fun c hc => ?_
  have h := List.all_eq_true.mp h1 c hc
  rcases Bool.eq_false_or_eq_true (isCode c) with hi | hi
  · exact h2 c (List.mem_filter.mpr ⟨hc, hi⟩)
  · simpa [hi] using h
set_option maxRecDepth 65536 in
theorem w_c0 : (Jvm.Cond.code x code maxLocals ret).before args0 about1 = true := code_word (m := ⟨1, 3⟩) (meth := k1m3) (c := k1c3) (by decide +kernel) rfl rfl rfl (by decide +kernel)
set_option maxRecDepth 65536 in
theorem w_c1 : (Jvm.Cond.code ({ cls := "com/example/profitmine/profitmine/io/FieldsWalkPinLaw", name := "draw", desc := "(I)C" } : Jvm.MethodName) method_2_code (2 : Nat) (Option.some Jvm.ClassFile.FieldType.char)).before args0 about1 = true := code_word (m := ⟨1, 1⟩) (meth := k1m1) (c := k1c1) (by decide +kernel) rfl rfl rfl (by decide +kernel)
set_option maxRecDepth 65536 in
theorem w_c2 : (Jvm.Cond.code ({ cls := "java/lang/String", name := "<init>", desc := "([C)V" } : Jvm.MethodName) jdk_42_method_3_code (2 : Nat) (Option.none : Option Jvm.ClassFile.FieldType)).before args0 about1 = true := code_word (m := ⟨7, 1⟩) (meth := k7m1) (c := k7c1) (by decide +kernel) rfl rfl rfl (by decide +kernel)
set_option maxRecDepth 65536 in
theorem w_c3 : (Jvm.Cond.code ({ cls := "java/lang/String", name := "<init>", desc := "([CIILjava/lang/Void;)V" } : Jvm.MethodName) jdk_42_method_149_code (6 : Nat) (Option.none : Option Jvm.ClassFile.FieldType)).before args0 about1 = true := code_word (m := ⟨7, 4⟩) (meth := k7m4) (c := k7c4) (by decide +kernel) rfl rfl rfl (by decide +kernel)
set_option maxRecDepth 65536 in
theorem w_c4 : (Jvm.Cond.code ({ cls := "java/lang/Object", name := "<init>", desc := "()V" } : Jvm.MethodName) object_method_1_code (1 : Nat) (Option.none : Option Jvm.ClassFile.FieldType)).before args0 about1 = true := code_word (m := ⟨0, 0⟩) (meth := k0m0) (c := k0c0) (by decide +kernel) rfl rfl rfl (by decide +kernel)
set_option maxRecDepth 65536 in
theorem w_c5 : (Jvm.Cond.code ({ cls := "java/lang/StringUTF16", name := "compress", desc := "([CII)[B" } : Jvm.MethodName) jdk_52_method_16_code (6 : Nat) (Option.some (Jvm.ClassFile.FieldType.array Jvm.ClassFile.FieldType.byte))).before args0 about1 = true := code_word (m := ⟨8, 2⟩) (meth := k8m2) (c := k8c2) (by decide +kernel) rfl rfl rfl (by decide +kernel)
set_option maxRecDepth 65536 in
theorem w_c6 : (Jvm.Cond.code ({ cls := "java/lang/StringUTF16", name := "compress", desc := "([CI[BII)I" } : Jvm.MethodName) jdk_52_method_21_code (7 : Nat) (Option.some Jvm.ClassFile.FieldType.int)).before args0 about1 = true := code_word (m := ⟨8, 3⟩) (meth := k8m3) (c := k8c3) (by decide +kernel) rfl rfl rfl (by decide +kernel)
set_option maxRecDepth 65536 in
theorem w_c7 : (Jvm.Cond.code ({ cls := "java/lang/StringUTF16", name := "coderFromArrayLen", desc := "([BI)B" } : Jvm.MethodName) jdk_52_method_15_code (2 : Nat) (Option.some Jvm.ClassFile.FieldType.byte)).before args0 about1 = true := code_word (m := ⟨8, 1⟩) (meth := k8m1) (c := k8c1) (by decide +kernel) rfl rfl rfl (by decide +kernel)
set_option maxRecDepth 65536 in
theorem w_c8 : (Jvm.Cond.code ({ cls := "com/example/profitmine/profitmine/io/Fields", name := "<init>", desc := "()V" } : Jvm.MethodName) prog_26_method_1_code (1 : Nat) (Option.none : Option Jvm.ClassFile.FieldType)).before args0 about1 = true := code_word (m := ⟨9, 0⟩) (meth := k9m0) (c := k9c0) (by decide +kernel) rfl rfl rfl (by decide +kernel)
set_option maxRecDepth 65536 in
theorem w_c9 : (Jvm.Cond.code ({ cls := "com/example/profitmine/profitmine/io/Fields", name := "walk", desc := "(Ljava/lang/String;)V" } : Jvm.MethodName) prog_26_method_2_code (2 : Nat) (Option.none : Option Jvm.ClassFile.FieldType)).before args0 about1 = true := code_word (m := ⟨9, 1⟩) (meth := k9m1) (c := k9c1) (by decide +kernel) rfl rfl rfl (by decide +kernel)
set_option maxRecDepth 65536 in
theorem w_c10 : (Jvm.Cond.code ({ cls := "com/example/profitmine/profitmine/io/Fields", name := "next", desc := "()Z" } : Jvm.MethodName) prog_26_method_3_code (3 : Nat) (Option.some Jvm.ClassFile.FieldType.boolean)).before args0 about1 = true := code_word (m := ⟨9, 2⟩) (meth := k9m2) (c := k9c2) (by decide +kernel) rfl rfl rfl (by decide +kernel)
set_option maxRecDepth 65536 in
theorem w_c11 : (Jvm.Cond.code ({ cls := "java/lang/String", name := "length", desc := "()I" } : Jvm.MethodName) jdk_42_method_54_code (1 : Nat) (Option.some Jvm.ClassFile.FieldType.int)).before args0 about1 = true := code_word (m := ⟨7, 2⟩) (meth := k7m2) (c := k7c2) (by decide +kernel) rfl rfl rfl (by decide +kernel)
set_option maxRecDepth 65536 in
theorem w_c12 : (Jvm.Cond.code ({ cls := "java/lang/String", name := "coder", desc := "()B" } : Jvm.MethodName) jdk_42_method_152_code (1 : Nat) (Option.some Jvm.ClassFile.FieldType.byte)).before args0 about1 = true := code_word (m := ⟨7, 5⟩) (meth := k7m5) (c := k7c5) (by decide +kernel) rfl rfl rfl (by decide +kernel)
set_option maxRecDepth 65536 in
theorem w_c13 : (Jvm.Cond.code ({ cls := "java/lang/String", name := "charAt", desc := "(I)C" } : Jvm.MethodName) jdk_42_method_56_code (2 : Nat) (Option.some Jvm.ClassFile.FieldType.char)).before args0 about1 = true := code_word (m := ⟨7, 3⟩) (meth := k7m3) (c := k7c3) (by decide +kernel) rfl rfl rfl (by decide +kernel)
set_option maxRecDepth 65536 in
theorem w_c14 : (Jvm.Cond.code ({ cls := "java/lang/String", name := "isLatin1", desc := "()Z" } : Jvm.MethodName) jdk_42_method_154_code (1 : Nat) (Option.some Jvm.ClassFile.FieldType.boolean)).before args0 about1 = true := code_word (m := ⟨7, 6⟩) (meth := k7m6) (c := k7c6) (by decide +kernel) rfl rfl rfl (by decide +kernel)
set_option maxRecDepth 65536 in
theorem w_c15 : (Jvm.Cond.code ({ cls := "java/lang/StringLatin1", name := "charAt", desc := "([BI)C" } : Jvm.MethodName) jdk_43_method_2_code (2 : Nat) (Option.some Jvm.ClassFile.FieldType.char)).before args0 about1 = true := code_word (m := ⟨10, 1⟩) (meth := k10m1) (c := k10c1) (by decide +kernel) rfl rfl rfl (by decide +kernel)
set_option maxRecDepth 65536 in
theorem w_c16 : (Jvm.Cond.code ({ cls := "java/lang/String", name := "checkIndex", desc := "(II)V" } : Jvm.MethodName) jdk_42_method_155_code (2 : Nat) (Option.none : Option Jvm.ClassFile.FieldType)).before args0 about1 = true := code_word (m := ⟨7, 7⟩) (meth := k7m7) (c := k7c7) (by decide +kernel) rfl rfl rfl (by decide +kernel)
set_option maxRecDepth 65536 in
theorem w_c17 : (Jvm.Cond.code ({ cls := "jdk/internal/util/Preconditions", name := "checkIndex", desc := "(IILjava/util/function/BiFunction;)I" } : Jvm.MethodName) jdk_41_method_11_code (3 : Nat) (Option.some Jvm.ClassFile.FieldType.int)).before args0 about1 = true := code_word (m := ⟨11, 1⟩) (meth := k11m1) (c := k11c1) (by decide +kernel) rfl rfl rfl (by decide +kernel)
set_option maxRecDepth 65536 in
theorem w_c18 : (Jvm.Cond.code ({ cls := "com/example/profitmine/profitmine/io/Fields", name := "isBlank", desc := "(C)Z" } : Jvm.MethodName) prog_26_method_14_code (1 : Nat) (Option.some Jvm.ClassFile.FieldType.boolean)).before args0 about1 = true := code_word (m := ⟨9, 6⟩) (meth := k9m6) (c := k9c6) (by decide +kernel) rfl rfl rfl (by decide +kernel)
set_option maxRecDepth 65536 in
theorem w_c19 : (Jvm.Cond.code ({ cls := "com/example/profitmine/profitmine/io/Fields", name := "line", desc := "()Ljava/lang/String;" } : Jvm.MethodName) prog_26_method_4_code (1 : Nat) (Option.some (Jvm.ClassFile.FieldType.object "java/lang/String"))).before args0 about1 = true := code_word (m := ⟨9, 3⟩) (meth := k9m3) (c := k9c3) (by decide +kernel) rfl rfl rfl (by decide +kernel)
set_option maxRecDepth 65536 in
theorem w_c20 : (Jvm.Cond.code ({ cls := "com/example/profitmine/profitmine/io/Fields", name := "start", desc := "()I" } : Jvm.MethodName) prog_26_method_5_code (1 : Nat) (Option.some Jvm.ClassFile.FieldType.int)).before args0 about1 = true := code_word (m := ⟨9, 4⟩) (meth := k9m4) (c := k9c4) (by decide +kernel) rfl rfl rfl (by decide +kernel)
set_option maxRecDepth 65536 in
theorem w_c21 : (Jvm.Cond.code ({ cls := "com/example/profitmine/profitmine/io/Fields", name := "end", desc := "()I" } : Jvm.MethodName) prog_26_method_6_code (1 : Nat) (Option.some Jvm.ClassFile.FieldType.int)).before args0 about1 = true := code_word (m := ⟨9, 5⟩) (meth := k9m5) (c := k9c5) (by decide +kernel) rfl rfl rfl (by decide +kernel)
set_option maxRecDepth 65536 in
theorem w_c22 : (Jvm.Cond.code ({ cls := "com/example/profitmine/profitmine/io/FieldsWalkPinLaw", name := "blank", desc := "(C)Z" } : Jvm.MethodName) method_3_code (1 : Nat) (Option.some Jvm.ClassFile.FieldType.boolean)).before args0 about1 = true := code_word (m := ⟨1, 2⟩) (meth := k1m2) (c := k1c2) (by decide +kernel) rfl rfl rfl (by decide +kernel)
def codes1 : List Jvm.Cond := [Jvm.Cond.code x code maxLocals ret, Jvm.Cond.code ({ cls := "com/example/profitmine/profitmine/io/FieldsWalkPinLaw", name := "draw", desc := "(I)C" } : Jvm.MethodName) method_2_code (2 : Nat) (Option.some Jvm.ClassFile.FieldType.char), Jvm.Cond.code ({ cls := "java/lang/String", name := "<init>", desc := "([C)V" } : Jvm.MethodName) jdk_42_method_3_code (2 : Nat) (Option.none : Option Jvm.ClassFile.FieldType), Jvm.Cond.code ({ cls := "java/lang/String", name := "<init>", desc := "([CIILjava/lang/Void;)V" } : Jvm.MethodName) jdk_42_method_149_code (6 : Nat) (Option.none : Option Jvm.ClassFile.FieldType), Jvm.Cond.code ({ cls := "java/lang/Object", name := "<init>", desc := "()V" } : Jvm.MethodName) object_method_1_code (1 : Nat) (Option.none : Option Jvm.ClassFile.FieldType), Jvm.Cond.code ({ cls := "java/lang/StringUTF16", name := "compress", desc := "([CII)[B" } : Jvm.MethodName) jdk_52_method_16_code (6 : Nat) (Option.some (Jvm.ClassFile.FieldType.array Jvm.ClassFile.FieldType.byte)), Jvm.Cond.code ({ cls := "java/lang/StringUTF16", name := "compress", desc := "([CI[BII)I" } : Jvm.MethodName) jdk_52_method_21_code (7 : Nat) (Option.some Jvm.ClassFile.FieldType.int), Jvm.Cond.code ({ cls := "java/lang/StringUTF16", name := "coderFromArrayLen", desc := "([BI)B" } : Jvm.MethodName) jdk_52_method_15_code (2 : Nat) (Option.some Jvm.ClassFile.FieldType.byte), Jvm.Cond.code ({ cls := "com/example/profitmine/profitmine/io/Fields", name := "<init>", desc := "()V" } : Jvm.MethodName) prog_26_method_1_code (1 : Nat) (Option.none : Option Jvm.ClassFile.FieldType), Jvm.Cond.code ({ cls := "com/example/profitmine/profitmine/io/Fields", name := "walk", desc := "(Ljava/lang/String;)V" } : Jvm.MethodName) prog_26_method_2_code (2 : Nat) (Option.none : Option Jvm.ClassFile.FieldType), Jvm.Cond.code ({ cls := "com/example/profitmine/profitmine/io/Fields", name := "next", desc := "()Z" } : Jvm.MethodName) prog_26_method_3_code (3 : Nat) (Option.some Jvm.ClassFile.FieldType.boolean), Jvm.Cond.code ({ cls := "java/lang/String", name := "length", desc := "()I" } : Jvm.MethodName) jdk_42_method_54_code (1 : Nat) (Option.some Jvm.ClassFile.FieldType.int), Jvm.Cond.code ({ cls := "java/lang/String", name := "coder", desc := "()B" } : Jvm.MethodName) jdk_42_method_152_code (1 : Nat) (Option.some Jvm.ClassFile.FieldType.byte), Jvm.Cond.code ({ cls := "java/lang/String", name := "charAt", desc := "(I)C" } : Jvm.MethodName) jdk_42_method_56_code (2 : Nat) (Option.some Jvm.ClassFile.FieldType.char), Jvm.Cond.code ({ cls := "java/lang/String", name := "isLatin1", desc := "()Z" } : Jvm.MethodName) jdk_42_method_154_code (1 : Nat) (Option.some Jvm.ClassFile.FieldType.boolean), Jvm.Cond.code ({ cls := "java/lang/StringLatin1", name := "charAt", desc := "([BI)C" } : Jvm.MethodName) jdk_43_method_2_code (2 : Nat) (Option.some Jvm.ClassFile.FieldType.char), Jvm.Cond.code ({ cls := "java/lang/String", name := "checkIndex", desc := "(II)V" } : Jvm.MethodName) jdk_42_method_155_code (2 : Nat) (Option.none : Option Jvm.ClassFile.FieldType), Jvm.Cond.code ({ cls := "jdk/internal/util/Preconditions", name := "checkIndex", desc := "(IILjava/util/function/BiFunction;)I" } : Jvm.MethodName) jdk_41_method_11_code (3 : Nat) (Option.some Jvm.ClassFile.FieldType.int), Jvm.Cond.code ({ cls := "com/example/profitmine/profitmine/io/Fields", name := "isBlank", desc := "(C)Z" } : Jvm.MethodName) prog_26_method_14_code (1 : Nat) (Option.some Jvm.ClassFile.FieldType.boolean), Jvm.Cond.code ({ cls := "com/example/profitmine/profitmine/io/Fields", name := "line", desc := "()Ljava/lang/String;" } : Jvm.MethodName) prog_26_method_4_code (1 : Nat) (Option.some (Jvm.ClassFile.FieldType.object "java/lang/String")), Jvm.Cond.code ({ cls := "com/example/profitmine/profitmine/io/Fields", name := "start", desc := "()I" } : Jvm.MethodName) prog_26_method_5_code (1 : Nat) (Option.some Jvm.ClassFile.FieldType.int), Jvm.Cond.code ({ cls := "com/example/profitmine/profitmine/io/Fields", name := "end", desc := "()I" } : Jvm.MethodName) prog_26_method_6_code (1 : Nat) (Option.some Jvm.ClassFile.FieldType.int), Jvm.Cond.code ({ cls := "com/example/profitmine/profitmine/io/FieldsWalkPinLaw", name := "blank", desc := "(C)Z" } : Jvm.MethodName) method_3_code (1 : Nat) (Option.some Jvm.ClassFile.FieldType.boolean)]
set_option maxRecDepth 65536 in
theorem codes_eq : words1.filter isCode = codes1 := rfl
theorem w_codes : ∀ c ∈ words1.filter isCode, c.before args0 about1 = true := by
  rw [codes_eq]
  intro c hc
  simp only [codes1, List.mem_cons, List.not_mem_nil, or_false] at hc
  rcases hc with rfl | rfl | rfl | rfl | rfl | rfl | rfl | rfl | rfl | rfl | rfl | rfl | rfl | rfl | rfl | rfl | rfl | rfl | rfl | rfl | rfl | rfl | rfl
  · exact w_c0
  · exact w_c1
  · exact w_c2
  · exact w_c3
  · exact w_c4
  · exact w_c5
  · exact w_c6
  · exact w_c7
  · exact w_c8
  · exact w_c9
  · exact w_c10
  · exact w_c11
  · exact w_c12
  · exact w_c13
  · exact w_c14
  · exact w_c15
  · exact w_c16
  · exact w_c17
  · exact w_c18
  · exact w_c19
  · exact w_c20
  · exact w_c21
  · exact w_c22
set_option maxRecDepth 65536 in
theorem w_t1 : (words1.take 24).all (fun c => isCode c || c.before args0 about1) = true := by decide +kernel
set_option maxRecDepth 65536 in
theorem w_t2 : ((words1.drop 24).take 24).all (fun c => isCode c || c.before args0 about1) = true := by decide +kernel
set_option maxRecDepth 65536 in
theorem w_t3 : (((words1.drop 24).drop 24).take 24).all (fun c => isCode c || c.before args0 about1) = true := by decide +kernel
set_option maxRecDepth 65536 in
theorem w_t4 : ((((words1.drop 24).drop 24).drop 24).take 24).all (fun c => isCode c || c.before args0 about1) = true := by decide +kernel
set_option maxRecDepth 65536 in
theorem w_t5 : ((((words1.drop 24).drop 24).drop 24).drop 24).all (fun c => isCode c || c.before args0 about1) = true := by decide +kernel
theorem w_tables : (allAtoms (Jvm.Cond.code x code maxLocals ret :: tables_1)).before args0 about1 = true := by
  rw [allAtoms_all]
  show words1.all (fun c => c.before args0 about1) = true
  refine all_split ?_ w_codes
  rw [← List.take_append_drop 24 words1, List.all_append, w_t1, ← List.take_append_drop 24 (words1.drop 24), List.all_append, w_t2, ← List.take_append_drop 24 ((words1.drop 24).drop 24), List.all_append, w_t3, ← List.take_append_drop 24 (((words1.drop 24).drop 24).drop 24), List.all_append, w_t4, w_t5]
  rfl
set_option maxRecDepth 65536 in
theorem w_rest : rest_1_c.before args0 about1 = true := by decide +kernel
set_option maxRecDepth 65536 in
theorem w_case : (Jvm.Cond.and given_1 narrow_1).before args0 about1 = true := by decide +kernel
theorem w_applies : (headSpec (Jvm.Cond.code x code maxLocals ret :: tables_1) room_1).applies x e0.platform about1 = true :=
  (Spec.applies_iff w_frames).mpr ⟨w_running, w_runnable, w_alone, w_named, w_hears, w_ripe, w_room, w_tables⟩
theorem atStart : AtStart classFile x code maxLocals ret World_1 tables_1 room_1 Calls_1 rest_1 Pre_1 launch0 p0 e0 about1 theMethod args0 below0 :=
  ⟨lists_1, trivial, launch0.admits_env _ _ _, launch0.least_env, fairChoices_fair.cas, fairChoices_fair.clock, w_frames, w_args, w_heap, w_applies, trivial, w_rest, w_case⟩
end start1
theorem witness_1 : WitnessClaimed_1 := ⟨start1.p0, start1.e0, start1.about1, start1.theMethod, start1.args0, start1.below0, start1.atStart⟩
end Jvm.Pilot.@@N@@
